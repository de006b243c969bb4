import JvmDerived
import JvmDerived.Pilot.@@N@@Statement
import JvmDerived.Pilot.@@N@@Code
set_option linter.unusedVariables false
set_option linter.unusedSimpArgs false
namespace Jvm.RoadKit
open Sem ClassFile Op Lib Jvm.Stand Jvm.Free Jvm.LawKit
section New
variable {p : Program} {l : Launch} {e : Env} {R : Room} {s : State} {m : MethodId} {args : Array Value} {below : List Frame} {meth : Method} {c : Code} {T : State} {locs : List Loc} {cells slots : Nat}
theorem retI (X : Stand p l e R s m args below meth c T locs cells slots) (hx : p.tables.exec = Jvm.exec) {pc : Nat} {Ls : Array Slot} {z : Int32} {rest : List Value} (hret : meth.sig.returnType = some .int) (hd : decode c.code pc = .ok (.ireturn, 1)) {fs : List Frame}
    (hl : ∀ (f : JFrame) (acts : List Action), f.method = m → f.locked = none → f.entered = [] → (doReturn e (T.setTop f) acts (some (.int z))).1 = T.setFrames fs) : Steps p.tables e below (T.setTop (mkF m pc Ls (.int z :: rest))) (T.setFrames fs) := by
  have hm' : T.vm.method? m = some meth := X.method'
  have hn : narrow .int (.int z) = .int z := rfl
  show Steps p.tables e below (T.setTop { method := m, pc := pc, locals := Ls, stack := _ :: rest, locked := none }) _
  jvm_step X.here [X.here.top, hx, hd, hm', hret, hn]
  first | (intro acts; rw [hl _ acts rfl rfl rfl]) | rw [hl _ _ rfl rfl rfl]
  exact Steps.refl _
end New
end Jvm.RoadKit
namespace Jvm.Pilot.@@N@@
open Jvm Jvm.ClassFile Sem Op Lib Jvm.Free Jvm.Stand Jvm.LawKit Jvm.RoadKit Bundle Jvm.Pilot.@@N@@.Jvm.D
theorem own_sta_keep {Z : State} {h h' : Heap} {C n d : String} {v : Value} {ws : List Addr} (F : Sta Z h C n d v) (K : Keep h h' ws) (q : ∀ x ∈ ws, ∃ cell : Cell, h[x]? = some cell ∧ cell.vm.isStatics = false) : Sta Z h' C n d v := by
  obtain ⟨cf, i, k, f, st, cell, h1, h2, h3, h4, h5, h6, h7⟩ := F
  refine ⟨cf, i, k, f, st, cell, h1, h2, h3, h4, K.2.1 st cell h5 (fun hm => ?_), h6, h7⟩
  obtain ⟨c2, e1, e2⟩ := q st hm
  cases h5.symm.trans e1
  rw [e2] at h6
  cases h6
theorem own_ns {Z : State} {h : Heap} {x : Addr} {C : String} (E : Exa Z h x C) : ∃ cell : Cell, h[x]? = some cell ∧ cell.vm.isStatics = false := by
  obtain ⟨cell, k, h1, -, -, h4, -⟩ := E
  exact ⟨cell, h1, h4⟩
def own_Cac (Z : State) (h : Heap) (C : String) (a : Addr) : Prop := ∃ cl : Cell, Arr Z h a cl (.object C) ∧ cl.slots.size = 256 ∧ ∀ k, k < 256 → ∃ x, cl.slots[k]? = some (.ref x) ∧ Exa Z h x C
theorem own_Cac.lt {Z : State} {h : Heap} {C : String} {a : Addr} (F : own_Cac Z h C a) : a < h.size := by obtain ⟨c, A, -⟩ := F; exact A.lt
theorem own_Cac.ext {Z : State} {h h' : Heap} {C : String} {a : Addr} (F : own_Cac Z h C a) (E : Ext h h') : own_Cac Z h' C a := by
  obtain ⟨c, A, n, q⟩ := F
  exact ⟨c, A.ext E, n, fun k hk => by obtain ⟨x, e1, e2⟩ := q k hk; exact ⟨x, e1, e2.ext E⟩⟩
theorem own_Cac.other {Z : State} {h h' : Heap} {C : String} {a b : Addr} {sl : Nat} {v : Value} (F : own_Cac Z h C a) (W : Wr h h' b sl v) (ne : a ≠ b) : own_Cac Z h' C a := by
  obtain ⟨c, A, n, q⟩ := F
  exact ⟨c, A.other W ne, n, fun k hk => by obtain ⟨x, e1, e2⟩ := q k hk; exact ⟨x, e1, e2.wr W⟩⟩
theorem own_Cac.keep {Z : State} {h h' : Heap} {C : String} {a : Addr} {ws : List Addr} (F : own_Cac Z h C a) (K : Keep h h' ws) (nin : a ∉ ws) : own_Cac Z h' C a := by
  obtain ⟨c, A, n, q⟩ := F
  exact ⟨c, ⟨K.2.1 a c A.1 nin, A.2⟩, n, fun k hk => by obtain ⟨x, e1, e2⟩ := q k hk; exact ⟨x, e1, e2.keep K⟩⟩
theorem own_Cac.start {args : Array Value} {s : State} {S n d C : String} {a : Addr} {X : Jvm.Cond} (ev : (Term.static S n d).eval args s none [] s = some (.ref a)) (h1 : (Jvm.Cond.arrayOf (Term.static S n d) (.object C)).before args s = true) (h2 : (Jvm.Cond.eq (Term.length (Term.static S n d)) (Term.int 256)).before args s = true)
    (h3 : (Jvm.Cond.all (Term.static S n d) (Jvm.Cond.and (Jvm.Cond.exactly (Term.elem (Term.static S n d) (Term.index 0)) C) X)).before args s = true) : own_Cac s s.heap C a := by
  obtain ⟨cl, A⟩ := Arr.start ev (Cond.before_iff.mp h1)
  have hat : s.arrayAt? a = some cl := A.fin (Vm.Alike.refl _)
  obtain ⟨hsz, hsize⟩ := IntBox.length_fwd h2 ev A.1 A.2.1 A.2.2
  have h256 : cl.slots.size = 256 := by
    have e : (cl.slots.size.toInt32).toInt = cl.slots.size := len_toInt hsz
    rw [hsize] at e
    have : ((256 : Int32)).toInt = 256 := by decide
    omega
  refine ⟨cl, A, h256, fun k hk => ?_⟩
  have hj := Cond.all_elim ev hat (Cond.before_iff.mp h3) k (by rw [h256]; exact hk)
  obtain ⟨k1, -⟩ := and_e hj
  obtain ⟨x, ex⟩ := exa_v k1
  have evk : (Term.static S n d).eval args s none [k] s = some (.ref a) := ev
  obtain ⟨hnn, hback⟩ := IntBox.place_nonneg k hk
  have hi : (Term.index 0).eval args s none [k] s = some (.int k.toInt32) := Term.index_eval _
  obtain ⟨-, hs⟩ := elem_in ex evk hi A.1
  rw [hback] at hs
  exact ⟨x, hs, exa_at ex k1⟩
def own_eq (x y : Int64) (u v : Int32) : Int32 := if x = y then (if u = v then (1 : Int32) else (0 : Int32)) else (0 : Int32)
theorem own_nsr {Z : State} {a0 : Array Value} {O K : String} {t : ClassId} (w : (Jvm.Cond.noSuperclass O).before a0 Z = true) (g1 : Z.vm.findClass K = some t) (hn : O ≠ K) : NS Z O K := by
  obtain ⟨c, k, h1, h2, h3, -, -⟩ := Cond.noSuperclass_spec w
  have ne := ids_ne h1 g1 hn
  refine ⟨c, t, h1, g1, fun fuel => ?_⟩
  cases fuel with
  | zero => rfl
  | succ f => simp [Vm.isSubclassAux, ne, h2, h3]
theorem own_notRG {Z : State} {a0 : Array Value} (hw : ∀ d ∈ tables_1, d.before a0 Z = true) : ∃ c t, Z.vm.findClass "java/lang/Long" = some c ∧ Z.vm.findClass "com/example/kept_reads/keptreads/wire/ReadGroup" = some t ∧ Z.vm.assignable c t = false := by
  have w1 := (hw _ (List.mem_of_getElem? (i := 36) rfl))
  have w2 := (hw _ (List.mem_of_getElem? (i := 37) rfl))
  have w3 := (hw _ (List.mem_of_getElem? (i := 38) rfl))
  obtain ⟨t', k', i1, i2, i3, i4, -⟩ := Cond.instantiable_spec (hw _ (List.mem_of_getElem? (i := 9) rfl))
  have n0 := own_nsr w3 i1 (by decide)
  have n1 := NS.step w2 n0 (by decide)
  have n2 := NS.step w1 n1 (by decide)
  obtain ⟨c, t, h0, g0, n3⟩ := n2
  cases g0.symm.trans i1
  obtain ⟨p, k, kp, h1, h2, h3, h4, h5, -, h7⟩ := Cond.superclass_spec h0 w1
  have ne := ids_ne h0 g0 (by decide)
  have i5 := (Bool.or_eq_false_iff.mp i4).1
  refine ⟨c, t', h0, g0, ?_⟩
  show Z.vm.assignableAux (255 + 1) c t' = false
  simp [Vm.assignableAux, ne, h2, i2, h5, i3, i5, Vm.isSubclass, n3]
theorem d1_0 : decode method_2_code 0 = .ok (.lload_n 0, 1) := by decide +kernel
theorem d1_1 : decode method_2_code 1 = .ok (.lconst 1, 1) := by decide +kernel
theorem d1_2 : decode method_2_code 2 = .ok (.lcmp, 1) := by decide +kernel
theorem d1_3 : decode method_2_code 3 = .ok (.ifCond .lt 5, 3) := by decide +kernel
theorem d1_6 : decode method_2_code 6 = .ok (.lload_n 0, 1) := by decide +kernel
theorem d1_7 : decode method_2_code 7 = .ok (.lreturn, 1) := by decide +kernel
theorem d1_8 : decode method_2_code 8 = .ok (.lload_n 0, 1) := by decide +kernel
theorem d1_9 : decode method_2_code 9 = .ok (.ldc2_w 9, 3) := by decide +kernel
theorem d1_12 : decode method_2_code 12 = .ok (.land, 1) := by decide +kernel
theorem d1_13 : decode method_2_code 13 = .ok (.lstore_n 2, 1) := by decide +kernel
theorem d1_14 : decode method_2_code 14 = .ok (.lload_n 2, 1) := by decide +kernel
theorem d1_15 : decode method_2_code 15 = .ok (.lconst 0, 1) := by decide +kernel
theorem d1_16 : decode method_2_code 16 = .ok (.lcmp, 1) := by decide +kernel
theorem d1_17 : decode method_2_code 17 = .ok (.ifCond .ne 7, 3) := by decide +kernel
theorem d1_20 : decode method_2_code 20 = .ok (.lconst 1, 1) := by decide +kernel
theorem d1_21 : decode method_2_code 21 = .ok (.goto 4, 3) := by decide +kernel
theorem d1_24 : decode method_2_code 24 = .ok (.lload_n 2, 1) := by decide +kernel
theorem d1_25 : decode method_2_code 25 = .ok (.lreturn, 1) := by decide +kernel
theorem pn_1 : plainName "com/example/kept_reads/keptreads/wire/ReadGroupEqualsPinLaw" = true := by first | (simp [plainName, overriddenIn]; done) | decide +kernel
theorem ef_1 (m : MethodId) (P0 : Int64) : entryFrame m #[(.long P0)] 4 = mkF m 0 #[.val (.long P0), .second, .unset, .unset] [] := by first | (simp [entryFrame, mkF, argsToLocals, Value.category]; done) | rfl
def tf1_0 (P0 : Int64) : Int64 := (if P0 < (1 : Int64) then (if (P0 &&& (9223372036854775807 : Int64)) = (0 : Int64) then (1 : Int64) else (P0 &&& (9223372036854775807 : Int64))) else P0)
set_option maxRecDepth 65536 in
set_option maxHeartbeats 40000000 in
theorem tl1_0 {p : Program} {l : Launch} {e : Env} {s : State} {m : MethodId} {args : Array Value} {below : List Frame} {meth : Method} {c : Code} {T0 : State} {locs : List Loc} {Z : State} {a0 : Array Value} {h0 : Heap} {n0 : Nat} (P0 : Int64)
    (X0 : Stand p l e ({ frames := 0, cells := 0, slots := 0, locals := 0 } : Room) s m args below meth c T0 locs 0 0) (hx : p.tables.exec = Jvm.exec) (hZ : Z.Warmed39 s.vm) (hw : ∀ d ∈ tables_1, d.before a0 Z = true) (hby : c.code = method_2_code) (hml : c.maxLocals = 4) (hown : s.vm.findClass "com/example/kept_reads/keptreads/wire/ReadGroupEqualsPinLaw" = some m.cls) (e0 : T0.heap = h0) (N0 : Fr n0 locs) (Z0 : n0 ≤ h0.size) :
    ∃ (T' : State) (pc' : Nat) (L' : Array Slot) (locs' : List Loc), Stand p l e ({ frames := 0, cells := 0, slots := 0, locals := 0 } : Room) s m args below meth c T' locs' 0 0 ∧ Fr n0 locs' ∧ T'.heap = h0 ∧ decode c.code pc' = .ok (.lreturn, 1) ∧ ∀ t, Steps p.tables e below (T'.setTop (mkF m pc' L' [.long (tf1_0 P0)])) t → Steps p.tables e below (T0.setTop (mkF m 0 #[.val (.long P0), .second, .unset, .unset] [])) t := by
  have pre0 : ∀ t, Steps p.tables e below (T0.setTop (mkF m 0 #[.val (.long P0), .second, .unset, .unset] [])) t → Steps p.tables e below (T0.setTop (mkF m 0 #[.val (.long P0), .second, .unset, .unset] [])) t := fun t k => k
  have pre1001 : ∀ t, Steps p.tables e below (T0.setTop (mkF m 3 #[.val (.long P0), .second, .unset, .unset] [(.int (lcmpW P0 (1 : Int64)))])) t → Steps p.tables e below (T0.setTop (mkF m 0 #[.val (.long P0), .second, .unset, .unset] [])) t := fun t kt => pre0 t (by
      show Steps p.tables e below (T0.setTop (mkF m 0 #[.val (.long P0), .second, .unset, .unset] [])) _
      refine XS.lloadN X0.here hx rfl (hb hby d1_0) rfl ?_
      show Steps p.tables e below (T0.setTop (mkF m 1 #[.val (.long P0), .second, .unset, .unset] [(.long P0)])) _
      refine XS.lconst X0.here hx rfl (hb hby d1_1) ?_
      show Steps p.tables e below (T0.setTop (mkF m 2 #[.val (.long P0), .second, .unset, .unset] [(.long (1 : Int64)), (.long P0)])) _
      refine XS.lcmp X0.here hx rfl (hb hby d1_2) rfl ?_
      exact kt)
  by_cases hc3 : P0 < (1 : Int64)
  · have pre1002 : ∀ t, Steps p.tables e below (T0.setTop (mkF m 17 #[.val (.long P0), .second, .val (.long (P0 &&& (9223372036854775807 : Int64))), .second] [(.int (lcmpW (P0 &&& (9223372036854775807 : Int64)) (0 : Int64)))])) t → Steps p.tables e below (T0.setTop (mkF m 0 #[.val (.long P0), .second, .unset, .unset] [])) t := fun t kt => pre1001 t (by
        show Steps p.tables e below (T0.setTop (mkF m 3 #[.val (.long P0), .second, .unset, .unset] [(.int (lcmpW P0 (1 : Int64)))])) _
        refine XS.ifYes X0.here hx rfl (pc0 := 3) (pc' := 8) rfl (hb hby d1_3) rfl ((if0 _ _).trans (tlt ((lw_lt P0 (1 : Int64)).mpr hc3)).1) (by decide) (by decide) ?_
        show Steps p.tables e below (T0.setTop (mkF m 8 #[.val (.long P0), .second, .unset, .unset] [])) _
        refine XS.lloadN X0.here hx rfl (hb hby d1_8) rfl ?_
        show Steps p.tables e below (T0.setTop (mkF m 9 #[.val (.long P0), .second, .unset, .unset] [(.long P0)])) _
        refine X0.ldc2Long hx hown (mvT hZ (hw _ (List.mem_of_getElem? (i := 7) rfl))) (g := (mkF m 9 #[.val (.long P0), .second, .unset, .unset] [(.long P0)])) rfl (hb hby d1_9) _ ?_
        show Steps p.tables e below (T0.setTop (mkF m 12 #[.val (.long P0), .second, .unset, .unset] [(.long (9223372036854775807 : Int64)), (.long P0)])) _
        refine XS.land X0.here hx rfl (hb hby d1_12) rfl ?_
        show Steps p.tables e below (T0.setTop (mkF m 13 #[.val (.long P0), .second, .unset, .unset] [(.long (P0 &&& (9223372036854775807 : Int64)))])) _
        refine XS.lstoreN X0.here hx rfl (hb hby d1_13) rfl (l' := #[.val (.long P0), .second, .val (.long (P0 &&& (9223372036854775807 : Int64))), .second]) rfl ?_
        show Steps p.tables e below (T0.setTop (mkF m 14 #[.val (.long P0), .second, .val (.long (P0 &&& (9223372036854775807 : Int64))), .second] [])) _
        refine XS.lloadN X0.here hx rfl (hb hby d1_14) rfl ?_
        show Steps p.tables e below (T0.setTop (mkF m 15 #[.val (.long P0), .second, .val (.long (P0 &&& (9223372036854775807 : Int64))), .second] [(.long (P0 &&& (9223372036854775807 : Int64)))])) _
        refine XS.lconst X0.here hx rfl (hb hby d1_15) ?_
        show Steps p.tables e below (T0.setTop (mkF m 16 #[.val (.long P0), .second, .val (.long (P0 &&& (9223372036854775807 : Int64))), .second] [(.long (0 : Int64)), (.long (P0 &&& (9223372036854775807 : Int64)))])) _
        refine XS.lcmp X0.here hx rfl (hb hby d1_16) rfl ?_
        exact kt)
    by_cases hc17 : (P0 &&& (9223372036854775807 : Int64)) = (0 : Int64)
    · have pre1003 : ∀ t, Steps p.tables e below (T0.setTop (mkF m 25 #[.val (.long P0), .second, .val (.long (P0 &&& (9223372036854775807 : Int64))), .second] [(.long (1 : Int64))])) t → Steps p.tables e below (T0.setTop (mkF m 0 #[.val (.long P0), .second, .unset, .unset] [])) t := fun t kt => pre1002 t (by
          show Steps p.tables e below (T0.setTop (mkF m 17 #[.val (.long P0), .second, .val (.long (P0 &&& (9223372036854775807 : Int64))), .second] [(.int (lcmpW (P0 &&& (9223372036854775807 : Int64)) (0 : Int64)))])) _
          refine XS.ifNo X0.here hx rfl (hb hby d1_17) rfl ((if0 _ _).trans (teq ((lw_eq (P0 &&& (9223372036854775807 : Int64)) (0 : Int64)).mpr hc17)).2) ?_
          show Steps p.tables e below (T0.setTop (mkF m 20 #[.val (.long P0), .second, .val (.long (P0 &&& (9223372036854775807 : Int64))), .second] [])) _
          refine XS.lconst X0.here hx rfl (hb hby d1_20) ?_
          show Steps p.tables e below (T0.setTop (mkF m 21 #[.val (.long P0), .second, .val (.long (P0 &&& (9223372036854775807 : Int64))), .second] [(.long (1 : Int64))])) _
          refine XS.goto X0.here hx rfl (pc0 := 21) (pc' := 25) rfl (hb hby d1_21) (by decide) (by decide) ?_
          exact kt)
      have hv : tf1_0 P0 = (1 : Int64) := by unfold tf1_0; rw [if_pos hc3, if_pos hc17]
      rw [hv]
      exact ⟨T0, 25, _, _, X0, N0, e0, (hb hby d1_25), pre1003⟩
    · have pre1004 : ∀ t, Steps p.tables e below (T0.setTop (mkF m 25 #[.val (.long P0), .second, .val (.long (P0 &&& (9223372036854775807 : Int64))), .second] [(.long (P0 &&& (9223372036854775807 : Int64)))])) t → Steps p.tables e below (T0.setTop (mkF m 0 #[.val (.long P0), .second, .unset, .unset] [])) t := fun t kt => pre1002 t (by
          show Steps p.tables e below (T0.setTop (mkF m 17 #[.val (.long P0), .second, .val (.long (P0 &&& (9223372036854775807 : Int64))), .second] [(.int (lcmpW (P0 &&& (9223372036854775807 : Int64)) (0 : Int64)))])) _
          refine XS.ifYes X0.here hx rfl (pc0 := 17) (pc' := 24) rfl (hb hby d1_17) rfl ((if0 _ _).trans (feq (fun q => hc17 ((lw_eq (P0 &&& (9223372036854775807 : Int64)) (0 : Int64)).mp q))).2) (by decide) (by decide) ?_
          show Steps p.tables e below (T0.setTop (mkF m 24 #[.val (.long P0), .second, .val (.long (P0 &&& (9223372036854775807 : Int64))), .second] [])) _
          refine XS.lloadN X0.here hx rfl (hb hby d1_24) rfl ?_
          exact kt)
      have hv : tf1_0 P0 = (P0 &&& (9223372036854775807 : Int64)) := by unfold tf1_0; rw [if_pos hc3, if_neg hc17]
      rw [hv]
      exact ⟨T0, 25, _, _, X0, N0, e0, (hb hby d1_25), pre1004⟩
  · have pre1005 : ∀ t, Steps p.tables e below (T0.setTop (mkF m 7 #[.val (.long P0), .second, .unset, .unset] [(.long P0)])) t → Steps p.tables e below (T0.setTop (mkF m 0 #[.val (.long P0), .second, .unset, .unset] [])) t := fun t kt => pre1001 t (by
        show Steps p.tables e below (T0.setTop (mkF m 3 #[.val (.long P0), .second, .unset, .unset] [(.int (lcmpW P0 (1 : Int64)))])) _
        refine XS.ifNo X0.here hx rfl (hb hby d1_3) rfl ((if0 _ _).trans (flt (fun q => hc3 ((lw_lt P0 (1 : Int64)).mp q))).1) ?_
        show Steps p.tables e below (T0.setTop (mkF m 6 #[.val (.long P0), .second, .unset, .unset] [])) _
        refine XS.lloadN X0.here hx rfl (hb hby d1_6) rfl ?_
        exact kt)
    have hv : tf1_0 P0 = P0 := by unfold tf1_0; rw [if_neg hc3]
    rw [hv]
    exact ⟨T0, 7, _, _, X0, N0, e0, (hb hby d1_7), pre1005⟩
def Q1 (Z : State) (P0 : Int64) (h0 : Heap) (n0 : Nat) (v : Option Value) (h : Heap) (L : List Loc) : Prop := (v = some (.long (tf1_0 P0))) ∧ (Fr n0 L) ∧ (h = h0)
set_option maxRecDepth 65536 in
set_option maxHeartbeats 40000000 in
theorem rm1 (l : Launch) (Z : State) (a0 : Array Value) (hw : ∀ d ∈ tables_1, d.before a0 Z = true) (ws : List Jvm.Cond) (P0 : Int64) (h0 : Heap) (n0 : Nat) (Z0 : n0 ≤ h0.size) :
    MetFree l (⟨"com/example/kept_reads/keptreads/wire/ReadGroupEqualsPinLaw", "posL", "(J)J"⟩ : MethodName) (head1 (Jvm.Cond.code (⟨"com/example/kept_reads/keptreads/wire/ReadGroupEqualsPinLaw", "posL", "(J)J"⟩ : MethodName) method_2_code 4 (some .long) :: ws) ({ frames := 0, cells := 0, slots := 0, locals := 0 } : Room)) (fun a U => a = #[(.long P0)] ∧ Z.Warmed39 U.vm ∧ U.heap = h0) (fun _ _ _ _ _ => True) (fun _ U o U' => ∃ v L, o = .returned v ∧ Q1 Z P0 h0 n0 v U'.heap L ∧ FrameEnd U o U' L ({ frames := 0, cells := 0, slots := 0, locals := 0 } : Room).cells ({ frames := 0, cells := 0, slots := 0, locals := 0 } : Room).slots) := by
  refine MetFree.of_bodySF (plainFor_of_name pn_1) hisR ?_
  intro p e s m args below meth c s₁ Bd hml0 hP hK
  obtain ⟨rfl, hZ, hh⟩ := hP
  have hx := Bd.exec
  have hby := Bd.bytes
  have hml : c.maxLocals = 4 := hml0
  have hown : s.vm.findClass "com/example/kept_reads/keptreads/wire/ReadGroupEqualsPinLaw" = some m.cls := findClass_of_methodNamed Bd.named
  have X0 : Stand p l e ({ frames := 0, cells := 0, slots := 0, locals := 0 } : Room) s m #[(.long P0)] below meth c s₁ [] 0 0 := Stand.of_body Bd
  have e0 : s₁.heap = h0 := by rw [← hh, Bd.state]; rfl
  obtain ⟨T1, pc1, L1, lc1, X1, N1, e1, dc1, st1⟩ := tl1_0 P0 (a0 := a0) (Z := Z) X0 hx hZ hw hby hml hown e0 (Fr.nil n0) Z0
  obtain ⟨fs, hr, hrun, hended, hW, hsame⟩ := X1.leave (v := some (.long (tf1_0 P0))) (fun h => by rw [Bd.returns] at h; cases h)
  refine ⟨_, _, castTop (ef_1 m P0) (st1 _ ?_), hrun, hended, _, _, rfl, ?_, ⟨_, rfl⟩, hW, hsame.mono (by decide) (by decide)⟩
  · exact retOut X1 hx Bd.returns rfl (Or.inr (Or.inl ⟨rfl, rfl, _, rfl⟩)) dc1 hr
  · show Q1 Z P0 h0 n0 _ T1.heap _
    rw [e1]
    exact ⟨rfl, N1, rfl⟩

theorem d2_0 : decode method_3_code 0 = .ok (.iload_n 0, 1) := by decide +kernel
theorem d2_1 : decode method_3_code 1 = .ok (.iconst 1, 1) := by decide +kernel
theorem d2_2 : decode method_3_code 2 = .ok (.if_icmp .lt 5, 3) := by decide +kernel
theorem d2_5 : decode method_3_code 5 = .ok (.iload_n 0, 1) := by decide +kernel
theorem d2_6 : decode method_3_code 6 = .ok (.ireturn, 1) := by decide +kernel
theorem d2_7 : decode method_3_code 7 = .ok (.iload_n 0, 1) := by decide +kernel
theorem d2_8 : decode method_3_code 8 = .ok (.ldc 13, 2) := by decide +kernel
theorem d2_10 : decode method_3_code 10 = .ok (.iand, 1) := by decide +kernel
theorem d2_11 : decode method_3_code 11 = .ok (.istore_n 1, 1) := by decide +kernel
theorem d2_12 : decode method_3_code 12 = .ok (.iload_n 1, 1) := by decide +kernel
theorem d2_13 : decode method_3_code 13 = .ok (.ifCond .ne 7, 3) := by decide +kernel
theorem d2_16 : decode method_3_code 16 = .ok (.iconst 1, 1) := by decide +kernel
theorem d2_17 : decode method_3_code 17 = .ok (.goto 4, 3) := by decide +kernel
theorem d2_20 : decode method_3_code 20 = .ok (.iload_n 1, 1) := by decide +kernel
theorem d2_21 : decode method_3_code 21 = .ok (.ireturn, 1) := by decide +kernel
theorem pn_2 : plainName "com/example/kept_reads/keptreads/wire/ReadGroupEqualsPinLaw" = true := by first | (simp [plainName, overriddenIn]; done) | decide +kernel
theorem ef_2 (m : MethodId) (P0 : Int32) : entryFrame m #[(.int P0)] 2 = mkF m 0 #[.val (.int P0), .unset] [] := by first | (simp [entryFrame, mkF, argsToLocals, Value.category]; done) | rfl
def tf2_0 (P0 : Int32) : Int32 := (if P0 < (1 : Int32) then (if (P0 &&& (2147483647 : Int32)) = (0 : Int32) then (1 : Int32) else (P0 &&& (2147483647 : Int32))) else P0)
set_option maxRecDepth 65536 in
set_option maxHeartbeats 40000000 in
theorem tl2_0 {p : Program} {l : Launch} {e : Env} {s : State} {m : MethodId} {args : Array Value} {below : List Frame} {meth : Method} {c : Code} {T0 : State} {locs : List Loc} {Z : State} {a0 : Array Value} {h0 : Heap} {n0 : Nat} (P0 : Int32)
    (X0 : Stand p l e ({ frames := 0, cells := 0, slots := 0, locals := 0 } : Room) s m args below meth c T0 locs 0 0) (hx : p.tables.exec = Jvm.exec) (hZ : Z.Warmed39 s.vm) (hw : ∀ d ∈ tables_1, d.before a0 Z = true) (hby : c.code = method_3_code) (hml : c.maxLocals = 2) (hown : s.vm.findClass "com/example/kept_reads/keptreads/wire/ReadGroupEqualsPinLaw" = some m.cls) (e0 : T0.heap = h0) (N0 : Fr n0 locs) (Z0 : n0 ≤ h0.size) :
    ∃ (T' : State) (pc' : Nat) (L' : Array Slot) (locs' : List Loc), Stand p l e ({ frames := 0, cells := 0, slots := 0, locals := 0 } : Room) s m args below meth c T' locs' 0 0 ∧ Fr n0 locs' ∧ T'.heap = h0 ∧ decode c.code pc' = .ok (.ireturn, 1) ∧ ∀ t, Steps p.tables e below (T'.setTop (mkF m pc' L' [.int (tf2_0 P0)])) t → Steps p.tables e below (T0.setTop (mkF m 0 #[.val (.int P0), .unset] [])) t := by
  have pre0 : ∀ t, Steps p.tables e below (T0.setTop (mkF m 0 #[.val (.int P0), .unset] [])) t → Steps p.tables e below (T0.setTop (mkF m 0 #[.val (.int P0), .unset] [])) t := fun t k => k
  have pre1001 : ∀ t, Steps p.tables e below (T0.setTop (mkF m 2 #[.val (.int P0), .unset] [(.int (1 : Int32)), (.int P0)])) t → Steps p.tables e below (T0.setTop (mkF m 0 #[.val (.int P0), .unset] [])) t := fun t kt => pre0 t (by
      show Steps p.tables e below (T0.setTop (mkF m 0 #[.val (.int P0), .unset] [])) _
      refine XS.iloadN X0.here hx rfl (hb hby d2_0) rfl ?_
      show Steps p.tables e below (T0.setTop (mkF m 1 #[.val (.int P0), .unset] [(.int P0)])) _
      refine XS.iconst X0.here hx rfl (hb hby d2_1) ?_
      exact kt)
  by_cases hc2 : P0 < (1 : Int32)
  · have pre1002 : ∀ t, Steps p.tables e below (T0.setTop (mkF m 13 #[.val (.int P0), .val (.int (P0 &&& (2147483647 : Int32)))] [(.int (P0 &&& (2147483647 : Int32)))])) t → Steps p.tables e below (T0.setTop (mkF m 0 #[.val (.int P0), .unset] [])) t := fun t kt => pre1001 t (by
        show Steps p.tables e below (T0.setTop (mkF m 2 #[.val (.int P0), .unset] [(.int (1 : Int32)), (.int P0)])) _
        refine XS.icmpYes X0.here hx rfl (pc0 := 2) (pc' := 7) rfl (hb hby d2_2) rfl (tlt hc2).1 (by decide) (by decide) ?_
        show Steps p.tables e below (T0.setTop (mkF m 7 #[.val (.int P0), .unset] [])) _
        refine XS.iloadN X0.here hx rfl (hb hby d2_7) rfl ?_
        show Steps p.tables e below (T0.setTop (mkF m 8 #[.val (.int P0), .unset] [(.int P0)])) _
        refine X0.ldcInt hx hown (mvT hZ (hw _ (List.mem_of_getElem? (i := 39) rfl))) (g := (mkF m 8 #[.val (.int P0), .unset] [(.int P0)])) rfl (hb hby d2_8) _ ?_
        show Steps p.tables e below (T0.setTop (mkF m 10 #[.val (.int P0), .unset] [(.int (2147483647 : Int32)), (.int P0)])) _
        refine XS.iand X0.here hx rfl (hb hby d2_10) rfl ?_
        show Steps p.tables e below (T0.setTop (mkF m 11 #[.val (.int P0), .unset] [(.int (P0 &&& (2147483647 : Int32)))])) _
        refine XS.istoreN X0.here hx rfl (hb hby d2_11) rfl (l' := #[.val (.int P0), .val (.int (P0 &&& (2147483647 : Int32)))]) rfl ?_
        show Steps p.tables e below (T0.setTop (mkF m 12 #[.val (.int P0), .val (.int (P0 &&& (2147483647 : Int32)))] [])) _
        refine XS.iloadN X0.here hx rfl (hb hby d2_12) rfl ?_
        exact kt)
    by_cases hc13 : (P0 &&& (2147483647 : Int32)) = (0 : Int32)
    · have pre1003 : ∀ t, Steps p.tables e below (T0.setTop (mkF m 21 #[.val (.int P0), .val (.int (P0 &&& (2147483647 : Int32)))] [(.int (1 : Int32))])) t → Steps p.tables e below (T0.setTop (mkF m 0 #[.val (.int P0), .unset] [])) t := fun t kt => pre1002 t (by
          show Steps p.tables e below (T0.setTop (mkF m 13 #[.val (.int P0), .val (.int (P0 &&& (2147483647 : Int32)))] [(.int (P0 &&& (2147483647 : Int32)))])) _
          refine XS.ifNo X0.here hx rfl (hb hby d2_13) rfl ((if0 _ _).trans (teq hc13).2) ?_
          show Steps p.tables e below (T0.setTop (mkF m 16 #[.val (.int P0), .val (.int (P0 &&& (2147483647 : Int32)))] [])) _
          refine XS.iconst X0.here hx rfl (hb hby d2_16) ?_
          show Steps p.tables e below (T0.setTop (mkF m 17 #[.val (.int P0), .val (.int (P0 &&& (2147483647 : Int32)))] [(.int (1 : Int32))])) _
          refine XS.goto X0.here hx rfl (pc0 := 17) (pc' := 21) rfl (hb hby d2_17) (by decide) (by decide) ?_
          exact kt)
      have hv : tf2_0 P0 = (1 : Int32) := by unfold tf2_0; rw [if_pos hc2, if_pos hc13]
      rw [hv]
      exact ⟨T0, 21, _, _, X0, N0, e0, (hb hby d2_21), pre1003⟩
    · have pre1004 : ∀ t, Steps p.tables e below (T0.setTop (mkF m 21 #[.val (.int P0), .val (.int (P0 &&& (2147483647 : Int32)))] [(.int (P0 &&& (2147483647 : Int32)))])) t → Steps p.tables e below (T0.setTop (mkF m 0 #[.val (.int P0), .unset] [])) t := fun t kt => pre1002 t (by
          show Steps p.tables e below (T0.setTop (mkF m 13 #[.val (.int P0), .val (.int (P0 &&& (2147483647 : Int32)))] [(.int (P0 &&& (2147483647 : Int32)))])) _
          refine XS.ifYes X0.here hx rfl (pc0 := 13) (pc' := 20) rfl (hb hby d2_13) rfl ((if0 _ _).trans (feq hc13).2) (by decide) (by decide) ?_
          show Steps p.tables e below (T0.setTop (mkF m 20 #[.val (.int P0), .val (.int (P0 &&& (2147483647 : Int32)))] [])) _
          refine XS.iloadN X0.here hx rfl (hb hby d2_20) rfl ?_
          exact kt)
      have hv : tf2_0 P0 = (P0 &&& (2147483647 : Int32)) := by unfold tf2_0; rw [if_pos hc2, if_neg hc13]
      rw [hv]
      exact ⟨T0, 21, _, _, X0, N0, e0, (hb hby d2_21), pre1004⟩
  · have pre1005 : ∀ t, Steps p.tables e below (T0.setTop (mkF m 6 #[.val (.int P0), .unset] [(.int P0)])) t → Steps p.tables e below (T0.setTop (mkF m 0 #[.val (.int P0), .unset] [])) t := fun t kt => pre1001 t (by
        show Steps p.tables e below (T0.setTop (mkF m 2 #[.val (.int P0), .unset] [(.int (1 : Int32)), (.int P0)])) _
        refine XS.icmpNo X0.here hx rfl (hb hby d2_2) rfl (flt hc2).1 ?_
        show Steps p.tables e below (T0.setTop (mkF m 5 #[.val (.int P0), .unset] [])) _
        refine XS.iloadN X0.here hx rfl (hb hby d2_5) rfl ?_
        exact kt)
    have hv : tf2_0 P0 = P0 := by unfold tf2_0; rw [if_neg hc2]
    rw [hv]
    exact ⟨T0, 6, _, _, X0, N0, e0, (hb hby d2_6), pre1005⟩
def Q2 (Z : State) (P0 : Int32) (h0 : Heap) (n0 : Nat) (v : Option Value) (h : Heap) (L : List Loc) : Prop := (v = some (.int (tf2_0 P0))) ∧ (Fr n0 L) ∧ (h = h0)
set_option maxRecDepth 65536 in
set_option maxHeartbeats 40000000 in
theorem rm2 (l : Launch) (Z : State) (a0 : Array Value) (hw : ∀ d ∈ tables_1, d.before a0 Z = true) (ws : List Jvm.Cond) (P0 : Int32) (h0 : Heap) (n0 : Nat) (Z0 : n0 ≤ h0.size) :
    MetFree l (⟨"com/example/kept_reads/keptreads/wire/ReadGroupEqualsPinLaw", "posI", "(I)I"⟩ : MethodName) (head1 (Jvm.Cond.code (⟨"com/example/kept_reads/keptreads/wire/ReadGroupEqualsPinLaw", "posI", "(I)I"⟩ : MethodName) method_3_code 2 (some .int) :: ws) ({ frames := 0, cells := 0, slots := 0, locals := 0 } : Room)) (fun a U => a = #[(.int P0)] ∧ Z.Warmed39 U.vm ∧ U.heap = h0) (fun _ _ _ _ _ => True) (fun _ U o U' => ∃ v L, o = .returned v ∧ Q2 Z P0 h0 n0 v U'.heap L ∧ FrameEnd U o U' L ({ frames := 0, cells := 0, slots := 0, locals := 0 } : Room).cells ({ frames := 0, cells := 0, slots := 0, locals := 0 } : Room).slots) := by
  refine MetFree.of_bodySF (plainFor_of_name pn_2) hisR ?_
  intro p e s m args below meth c s₁ Bd hml0 hP hK
  obtain ⟨rfl, hZ, hh⟩ := hP
  have hx := Bd.exec
  have hby := Bd.bytes
  have hml : c.maxLocals = 2 := hml0
  have hown : s.vm.findClass "com/example/kept_reads/keptreads/wire/ReadGroupEqualsPinLaw" = some m.cls := findClass_of_methodNamed Bd.named
  have X0 : Stand p l e ({ frames := 0, cells := 0, slots := 0, locals := 0 } : Room) s m #[(.int P0)] below meth c s₁ [] 0 0 := Stand.of_body Bd
  have e0 : s₁.heap = h0 := by rw [← hh, Bd.state]; rfl
  obtain ⟨T1, pc1, L1, lc1, X1, N1, e1, dc1, st1⟩ := tl2_0 P0 (a0 := a0) (Z := Z) X0 hx hZ hw hby hml hown e0 (Fr.nil n0) Z0
  obtain ⟨fs, hr, hrun, hended, hW, hsame⟩ := X1.leave (v := some (.int (tf2_0 P0))) (fun h => by rw [Bd.returns] at h; cases h)
  refine ⟨_, _, castTop (ef_2 m P0) (st1 _ ?_), hrun, hended, _, _, rfl, ?_, ⟨_, rfl⟩, hW, hsame.mono (by decide) (by decide)⟩
  · exact retI X1 hx Bd.returns dc1 hr
  · show Q2 Z P0 h0 n0 _ T1.heap _
    rw [e1]
    exact ⟨rfl, N1, rfl⟩

theorem d3_0 : decode prog_43_method_1_code 0 = .ok (.aload_n 0, 1) := by decide +kernel
theorem d3_1 : decode prog_43_method_1_code 1 = .ok (.invokespecial 1, 3) := by decide +kernel
theorem d3_4 : decode prog_43_method_1_code 4 = .ok (.lload_n 1, 1) := by decide +kernel
theorem d3_5 : decode prog_43_method_1_code 5 = .ok (.lconst 1, 1) := by decide +kernel
theorem d3_6 : decode prog_43_method_1_code 6 = .ok (.lcmp, 1) := by decide +kernel
theorem d3_7 : decode prog_43_method_1_code 7 = .ok (.ifCond .lt 8, 3) := by decide +kernel
theorem d3_10 : decode prog_43_method_1_code 10 = .ok (.iload_n 3, 1) := by decide +kernel
theorem d3_11 : decode prog_43_method_1_code 11 = .ok (.iconst 1, 1) := by decide +kernel
theorem d3_12 : decode prog_43_method_1_code 12 = .ok (.if_icmp .ge 18, 3) := by decide +kernel
theorem d3_30 : decode prog_43_method_1_code 30 = .ok (.aload_n 0, 1) := by decide +kernel
theorem d3_31 : decode prog_43_method_1_code 31 = .ok (.lload_n 1, 1) := by decide +kernel
theorem d3_32 : decode prog_43_method_1_code 32 = .ok (.putfield 16, 3) := by decide +kernel
theorem d3_35 : decode prog_43_method_1_code 35 = .ok (.aload_n 0, 1) := by decide +kernel
theorem d3_36 : decode prog_43_method_1_code 36 = .ok (.iload_n 3, 1) := by decide +kernel
theorem d3_37 : decode prog_43_method_1_code 37 = .ok (.putfield 22, 3) := by decide +kernel
theorem d3_40 : decode prog_43_method_1_code 40 = .ok (.return_, 1) := by decide +kernel
theorem pn_3 : plainName "com/example/kept_reads/keptreads/wire/ReadGroup" = true := by first | (simp [plainName, overriddenIn]; done) | decide +kernel
theorem ef_3 (m : MethodId) (A0 : Addr) (P1 : Int64) (P2 : Int32) : entryFrame m #[(.ref A0), (.long P1), (.int P2)] 4 = mkF m 0 #[.val (.ref A0), .val (.long P1), .second, .val (.int P2)] [] := by first | (simp [entryFrame, mkF, argsToLocals, Value.category]; done) | rfl
def Q3 (Z : State) (A0 : Addr) (P1 : Int64) (P2 : Int32) (W0 : Int64) (W1 : Int32) (h0 : Heap) (n0 : Nat) (v : Option Value) (h : Heap) (L : List Loc) : Prop := (v = none) ∧ (Fr n0 L) ∧ (Keep h0 h [A0]) ∧ (Exa Z h A0 "com/example/kept_reads/keptreads/wire/ReadGroup") ∧ (Fld Z h A0 "com/example/kept_reads/keptreads/wire/ReadGroup" "transaction" "J" (.long P1)) ∧ (Fld Z h A0 "com/example/kept_reads/keptreads/wire/ReadGroup" "call" "I" (.int P2))
set_option maxRecDepth 65536 in
set_option maxHeartbeats 40000000 in
theorem rm3 (l : Launch) (Z : State) (a0 : Array Value) (hw : ∀ d ∈ tables_1, d.before a0 Z = true) (ws : List Jvm.Cond) (A0 : Addr) (P1 : Int64) (P2 : Int32) (W0 : Int64) (W1 : Int32) (h0 : Heap) (n0 : Nat) (Z0 : n0 ≤ h0.size) (pm0 : Fld Z h0 A0 "com/example/kept_reads/keptreads/wire/ReadGroup" "transaction" "J" (.long W0)) (pm1 : Fld Z h0 A0 "com/example/kept_reads/keptreads/wire/ReadGroup" "call" "I" (.int W1)) (pm2 : Exa Z h0 A0 "com/example/kept_reads/keptreads/wire/ReadGroup") (hl : ¬ (P1 < (1 : Int64))) (hi : ¬ (P2 < (1 : Int32))) (g_A0 : n0 ≤ A0) :
    MetFree l (⟨"com/example/kept_reads/keptreads/wire/ReadGroup", "<init>", "(JI)V"⟩ : MethodName) (head1 (Jvm.Cond.code (⟨"com/example/kept_reads/keptreads/wire/ReadGroup", "<init>", "(JI)V"⟩ : MethodName) prog_43_method_1_code 4 none :: ws) ({ frames := 1, cells := 0, slots := 0, locals := 12 } : Room)) (fun a U => a = #[(.ref A0), (.long P1), (.int P2)] ∧ Z.Warmed39 U.vm ∧ U.heap = h0) (fun _ _ _ _ _ => True) (fun _ U o U' => ∃ v L, o = .returned v ∧ Q3 Z A0 P1 P2 W0 W1 h0 n0 v U'.heap L ∧ FrameEnd U o U' L ({ frames := 1, cells := 0, slots := 0, locals := 12 } : Room).cells ({ frames := 1, cells := 0, slots := 0, locals := 12 } : Room).slots) := by
  refine MetFree.of_bodySF (plainFor_of_name pn_3) hisR ?_
  intro p e s m args below meth c s₁ Bd hml0 hP hK
  obtain ⟨rfl, hZ, hh⟩ := hP
  have hx := Bd.exec
  have hby := Bd.bytes
  have hml : c.maxLocals = 4 := hml0
  have hown : s.vm.findClass "com/example/kept_reads/keptreads/wire/ReadGroup" = some m.cls := findClass_of_methodNamed Bd.named
  have hnm := (name_of_methodNamed Bd.named Bd.method).1
  have X0 : Stand p l e ({ frames := 1, cells := 0, slots := 0, locals := 12 } : Room) s m #[(.ref A0), (.long P1), (.int P2)] below meth c s₁ [] 0 0 := Stand.of_body Bd
  have e0 : s₁.heap = h0 := by rw [← hh, Bd.state]; rfl
  have N0 := Fr.nil n0
  have pre0 : ∀ t, Steps p.tables e below (s₁.setTop (mkF m 0 #[.val (.ref A0), .val (.long P1), .second, .val (.int P2)] [])) t → Steps p.tables e below (s₁.setTop (entryFrame m #[(.ref A0), (.long P1), (.int P2)] 4)) t := fun t k => castTop (ef_3 m A0 P1 P2) k
  have K_0 : Keep h0 h0 [A0] := Keep.refl h0 _
  obtain ⟨T101, X101, e101, st101⟩ := initO X0 hx hZ hown (hw _ (List.mem_of_getElem? (i := 14) rfl)) (hw _ (List.mem_of_getElem? (i := 15) rfl)) (hw _ (List.mem_of_getElem? (i := 16) rfl)) e0 (g := (mkF m 1 #[.val (.ref A0), .val (.long P1), .second, .val (.int P2)] [(.ref A0)])) rfl (by rw [hml]; rfl) rfl (hb hby d3_1) (by decide) (W := 0) (by show 2 * 0 + _ ≤ _; exact Nat.le_of_eq rfl) (by decide)
  obtain ⟨T102, h102, X102, e102, W102, st102⟩ := putF X101 hx hZ hown (host := "") (Or.inl (hw _ (List.mem_of_getElem? (i := 17) rfl))) Via.refl e101 pm0 pm2 (Or.inr ⟨(hw _ (List.mem_of_getElem? (i := 18) rfl)), rfl, hnm⟩) (hw _ (List.mem_of_getElem? (i := 9) rfl)) (ty := .long) (by decide) rfl rfl (g := (mkF m 32 #[.val (.ref A0), .val (.long P1), .second, .val (.int P2)] [(.long P1), (.ref A0)])) rfl rfl (hb hby d3_32)
  have Z103 : n0 ≤ h102.size := Nat.le_trans Z0 (Nat.le_of_eq W102.size.symm)
  have K_103 : Keep h0 h102 [A0] := K_0.wr W102 (Or.inl (List.mem_of_getElem? (i := 0) rfl))
  have Fw102 : Fld Z h102 A0 "com/example/kept_reads/keptreads/wire/ReadGroup" "transaction" "J" (.long P1) := pm0.same W102
  have N102 := Fr.snoc X102 N0 g_A0
  have c104 : Exa Z h102 A0 "com/example/kept_reads/keptreads/wire/ReadGroup" := (pm2.wr W102)
  have c105 : Fld Z h102 A0 "com/example/kept_reads/keptreads/wire/ReadGroup" "call" "I" (.int W1) := (pm1.other W102 (Or.inr (slot_ne (Or.inr (hw _ (List.mem_of_getElem? (i := 20) rfl))) (Or.inr (hw _ (List.mem_of_getElem? (i := 18) rfl))) (by decide) (t := .int) (t' := .long) (by decide) (by decide))))
  obtain ⟨T106, h106, X106, e106, W106, st106⟩ := putF X102 hx hZ hown (host := "") (Or.inl (hw _ (List.mem_of_getElem? (i := 19) rfl))) Via.refl e102 c105 c104 (Or.inr ⟨(hw _ (List.mem_of_getElem? (i := 20) rfl)), rfl, hnm⟩) (hw _ (List.mem_of_getElem? (i := 9) rfl)) (ty := .int) (by decide) rfl rfl (g := (mkF m 37 #[.val (.ref A0), .val (.long P1), .second, .val (.int P2)] [(.int P2), (.ref A0)])) rfl rfl (hb hby d3_37)
  have Z107 : n0 ≤ h106.size := Nat.le_trans Z103 (Nat.le_of_eq W106.size.symm)
  have K_107 : Keep h0 h106 [A0] := K_103.wr W106 (Or.inl (List.mem_of_getElem? (i := 0) rfl))
  have Fw106 : Fld Z h106 A0 "com/example/kept_reads/keptreads/wire/ReadGroup" "call" "I" (.int P2) := c105.same W106
  have N106 := Fr.snoc X106 N102 g_A0
  have pre108 : ∀ t, Steps p.tables e below (T106.setTop (mkF m 40 #[.val (.ref A0), .val (.long P1), .second, .val (.int P2)] [])) t → Steps p.tables e below (s₁.setTop (entryFrame m #[(.ref A0), (.long P1), (.int P2)] 4)) t := fun t kt => pre0 t (by
      show Steps p.tables e below (s₁.setTop (mkF m 0 #[.val (.ref A0), .val (.long P1), .second, .val (.int P2)] [])) _
      refine XS.aloadN X0.here hx rfl (hb hby d3_0) rfl rfl ?_
      show Steps p.tables e below (s₁.setTop (mkF m 1 #[.val (.ref A0), .val (.long P1), .second, .val (.int P2)] [(.ref A0)])) _
      refine st101 _ ?_
      show Steps p.tables e below (T101.setTop (mkF m 4 #[.val (.ref A0), .val (.long P1), .second, .val (.int P2)] [])) _
      refine XS.lloadN X101.here hx rfl (hb hby d3_4) rfl ?_
      show Steps p.tables e below (T101.setTop (mkF m 5 #[.val (.ref A0), .val (.long P1), .second, .val (.int P2)] [(.long P1)])) _
      refine XS.lconst X101.here hx rfl (hb hby d3_5) ?_
      show Steps p.tables e below (T101.setTop (mkF m 6 #[.val (.ref A0), .val (.long P1), .second, .val (.int P2)] [(.long (1 : Int64)), (.long P1)])) _
      refine XS.lcmp X101.here hx rfl (hb hby d3_6) rfl ?_
      show Steps p.tables e below (T101.setTop (mkF m 7 #[.val (.ref A0), .val (.long P1), .second, .val (.int P2)] [(.int (lcmpW P1 (1 : Int64)))])) _
      refine XS.ifNo X101.here hx rfl (hb hby d3_7) rfl ((if0 _ _).trans (flt (fun q => (show ¬ (P1 < (1 : Int64)) from hl) ((lw_lt P1 (1 : Int64)).mp q))).1) ?_
      show Steps p.tables e below (T101.setTop (mkF m 10 #[.val (.ref A0), .val (.long P1), .second, .val (.int P2)] [])) _
      refine XS.iloadN X101.here hx rfl (hb hby d3_10) rfl ?_
      show Steps p.tables e below (T101.setTop (mkF m 11 #[.val (.ref A0), .val (.long P1), .second, .val (.int P2)] [(.int P2)])) _
      refine XS.iconst X101.here hx rfl (hb hby d3_11) ?_
      show Steps p.tables e below (T101.setTop (mkF m 12 #[.val (.ref A0), .val (.long P1), .second, .val (.int P2)] [(.int (1 : Int32)), (.int P2)])) _
      refine XS.icmpYes X101.here hx rfl (pc0 := 12) (pc' := 30) rfl (hb hby d3_12) rfl (flt (show ¬ (P2 < (1 : Int32)) from hi)).2.1 (by decide) (by decide) ?_
      show Steps p.tables e below (T101.setTop (mkF m 30 #[.val (.ref A0), .val (.long P1), .second, .val (.int P2)] [])) _
      refine XS.aloadN X101.here hx rfl (hb hby d3_30) rfl rfl ?_
      show Steps p.tables e below (T101.setTop (mkF m 31 #[.val (.ref A0), .val (.long P1), .second, .val (.int P2)] [(.ref A0)])) _
      refine XS.lloadN X101.here hx rfl (hb hby d3_31) rfl ?_
      show Steps p.tables e below (T101.setTop (mkF m 32 #[.val (.ref A0), .val (.long P1), .second, .val (.int P2)] [(.long P1), (.ref A0)])) _
      refine st102 _ ?_
      show Steps p.tables e below (T102.setTop (mkF m 35 #[.val (.ref A0), .val (.long P1), .second, .val (.int P2)] [])) _
      refine XS.aloadN X102.here hx rfl (hb hby d3_35) rfl rfl ?_
      show Steps p.tables e below (T102.setTop (mkF m 36 #[.val (.ref A0), .val (.long P1), .second, .val (.int P2)] [(.ref A0)])) _
      refine XS.iloadN X102.here hx rfl (hb hby d3_36) rfl ?_
      show Steps p.tables e below (T102.setTop (mkF m 37 #[.val (.ref A0), .val (.long P1), .second, .val (.int P2)] [(.int P2), (.ref A0)])) _
      refine st106 _ ?_
      exact kt)
  have c109 : Exa Z h106 A0 "com/example/kept_reads/keptreads/wire/ReadGroup" := (c104.wr W106)
  have c110 : Fld Z h106 A0 "com/example/kept_reads/keptreads/wire/ReadGroup" "transaction" "J" (.long P1) := (Fw102.other W106 (Or.inr (slot_ne (Or.inr (hw _ (List.mem_of_getElem? (i := 18) rfl))) (Or.inr (hw _ (List.mem_of_getElem? (i := 20) rfl))) (by decide) (t := .long) (t' := .int) (by decide) (by decide))))
  obtain ⟨fs, hr, hrun, hended, hW, hsame⟩ := X106.leave (v := none) (fun _ => rfl)
  refine ⟨_, _, pre108 _ ?_, hrun, hended, _, _, rfl, ?_, ⟨_, rfl⟩, hW, hsame.mono (by decide) (by decide)⟩
  · show Steps p.tables e below (T106.setTop (mkF m 40 #[.val (.ref A0), .val (.long P1), .second, .val (.int P2)] [])) _
    exact X106.returnOut hx Bd.returns (hb hby d3_40) hr
  · show Q3 Z A0 P1 P2 W0 W1 h0 n0 _ T106.heap _
    rw [e106]
    exact ⟨rfl, N106, K_107, c109, c110, Fw106⟩
theorem d5_0 : decode prog_43_method_4_code 0 = .ok (.aload_n 0, 1) := by decide +kernel
theorem d5_1 : decode prog_43_method_4_code 1 = .ok (.aload_n 1, 1) := by decide +kernel
theorem d5_2 : decode prog_43_method_4_code 2 = .ok (.if_acmp .ne 5, 3) := by decide +kernel
theorem d5_5 : decode prog_43_method_4_code 5 = .ok (.iconst 1, 1) := by decide +kernel
theorem d5_6 : decode prog_43_method_4_code 6 = .ok (.ireturn, 1) := by decide +kernel
theorem pn_5 : plainName "com/example/kept_reads/keptreads/wire/ReadGroup" = true := by first | (simp [plainName, overriddenIn]; done) | decide +kernel
theorem ef_eqS (m : MethodId) (A0 : Addr) (A1 : Addr) : entryFrame m #[(.ref A0), (.ref A1)] 3 = mkF m 0 #[.val (.ref A0), .val (.ref A1), .unset] [] := by first | (simp [entryFrame, mkF, argsToLocals, Value.category]; done) | rfl
def QeqS (Z : State) (A0 : Addr) (A1 : Addr) (h0 : Heap) (n0 : Nat) (v : Option Value) (h : Heap) (L : List Loc) : Prop := (v = some (.int (1 : Int32))) ∧ (Fr n0 L) ∧ (h = h0)
set_option maxRecDepth 65536 in
set_option maxHeartbeats 40000000 in
theorem rmeqS (l : Launch) (Z : State) (a0 : Array Value) (hw : ∀ d ∈ tables_1, d.before a0 Z = true) (ws : List Jvm.Cond) (A0 : Addr) (A1 : Addr) (h0 : Heap) (n0 : Nat) (Z0 : n0 ≤ h0.size) (he : A0 = A1) :
    MetFree l (⟨"com/example/kept_reads/keptreads/wire/ReadGroup", "equals", "(Ljava/lang/Object;)Z"⟩ : MethodName) (head1 (Jvm.Cond.code (⟨"com/example/kept_reads/keptreads/wire/ReadGroup", "equals", "(Ljava/lang/Object;)Z"⟩ : MethodName) prog_43_method_4_code 3 (some .boolean) :: ws) ({ frames := 0, cells := 0, slots := 0, locals := 0 } : Room)) (fun a U => a = #[(.ref A0), (.ref A1)] ∧ Z.Warmed39 U.vm ∧ U.heap = h0) (fun _ _ _ _ _ => True) (fun _ U o U' => ∃ v L, o = .returned v ∧ QeqS Z A0 A1 h0 n0 v U'.heap L ∧ FrameEnd U o U' L ({ frames := 0, cells := 0, slots := 0, locals := 0 } : Room).cells ({ frames := 0, cells := 0, slots := 0, locals := 0 } : Room).slots) := by
  refine MetFree.of_bodySF (plainFor_of_name pn_5) hisR ?_
  intro p e s m args below meth c s₁ Bd hml0 hP hK
  obtain ⟨rfl, hZ, hh⟩ := hP
  have hx := Bd.exec
  have hby := Bd.bytes
  have hml : c.maxLocals = 3 := hml0
  have hown : s.vm.findClass "com/example/kept_reads/keptreads/wire/ReadGroup" = some m.cls := findClass_of_methodNamed Bd.named
  have hnm := (name_of_methodNamed Bd.named Bd.method).1
  have X0 : Stand p l e ({ frames := 0, cells := 0, slots := 0, locals := 0 } : Room) s m #[(.ref A0), (.ref A1)] below meth c s₁ [] 0 0 := Stand.of_body Bd
  have e0 : s₁.heap = h0 := by rw [← hh, Bd.state]; rfl
  have N0 := Fr.nil n0
  have pre0 : ∀ t, Steps p.tables e below (s₁.setTop (mkF m 0 #[.val (.ref A0), .val (.ref A1), .unset] [])) t → Steps p.tables e below (s₁.setTop (entryFrame m #[(.ref A0), (.ref A1)] 3)) t := fun t k => castTop (ef_eqS m A0 A1) k
  have pre101 : ∀ t, Steps p.tables e below (s₁.setTop (mkF m 6 #[.val (.ref A0), .val (.ref A1), .unset] [(.int (1 : Int32))])) t → Steps p.tables e below (s₁.setTop (entryFrame m #[(.ref A0), (.ref A1)] 3)) t := fun t kt => pre0 t (by
      show Steps p.tables e below (s₁.setTop (mkF m 0 #[.val (.ref A0), .val (.ref A1), .unset] [])) _
      refine XS.aloadN X0.here hx rfl (hb hby d5_0) rfl rfl ?_
      show Steps p.tables e below (s₁.setTop (mkF m 1 #[.val (.ref A0), .val (.ref A1), .unset] [(.ref A0)])) _
      refine XS.aloadN X0.here hx rfl (hb hby d5_1) rfl rfl ?_
      show Steps p.tables e below (s₁.setTop (mkF m 2 #[.val (.ref A0), .val (.ref A1), .unset] [(.ref A1), (.ref A0)])) _
      refine Jvm.RoadKit.acmp (g := (mkF m 2 #[.val (.ref A0), .val (.ref A1), .unset] [(.ref A1), (.ref A0)])) X0 hx rfl rfl rfl (pc0 := 2) (pc' := 5) (same := true) rfl (hb hby d5_2) rfl (decide_eq_true (congrArg Value.ref he)) (by decide) (by decide) ?_
      show Steps p.tables e below (s₁.setTop (mkF m 5 #[.val (.ref A0), .val (.ref A1), .unset] [])) _
      refine XS.iconst X0.here hx rfl (hb hby d5_5) ?_
      exact kt)
  obtain ⟨fs, hr, hrun, hended, hW, hsame⟩ := X0.leave (v := some (.int (1 : Int32))) (fun h => by rw [Bd.returns] at h; cases h)
  refine ⟨_, _, pre101 _ ?_, hrun, hended, _, _, rfl, ?_, ⟨_, rfl⟩, hW, hsame.mono (by decide) (by decide)⟩
  · show Steps p.tables e below (s₁.setTop (mkF m 6 #[.val (.ref A0), .val (.ref A1), .unset] [(.int (1 : Int32))])) _
    exact retN X0 hx (t := .boolean) Bd.returns (by simp) (hb hby d5_6) hr
  · show QeqS Z A0 A1 h0 n0 _ s₁.heap _
    rw [e0]
    exact ⟨rfl, N0, rfl⟩
theorem d5_7 : decode prog_43_method_4_code 7 = .ok (.aload_n 1, 1) := by decide +kernel
theorem d5_8 : decode prog_43_method_4_code 8 = .ok (.instanceof 17, 3) := by decide +kernel
theorem d5_11 : decode prog_43_method_4_code 11 = .ok (.ifCond .eq 11, 3) := by decide +kernel
theorem d5_22 : decode prog_43_method_4_code 22 = .ok (.iconst 0, 1) := by decide +kernel
theorem d5_23 : decode prog_43_method_4_code 23 = .ok (.ireturn, 1) := by decide +kernel
theorem ef_eqN (m : MethodId) (A0 : Addr) : entryFrame m #[(.ref A0), .null] 3 = mkF m 0 #[.val (.ref A0), .val .null, .unset] [] := by first | (simp [entryFrame, mkF, argsToLocals, Value.category]; done) | rfl
def QeqN (Z : State) (A0 : Addr) (h0 : Heap) (n0 : Nat) (v : Option Value) (h : Heap) (L : List Loc) : Prop := (v = some (.int (0 : Int32))) ∧ (Fr n0 L) ∧ (h = h0)
set_option maxRecDepth 65536 in
set_option maxHeartbeats 40000000 in
theorem rmeqN (l : Launch) (Z : State) (a0 : Array Value) (hw : ∀ d ∈ tables_1, d.before a0 Z = true) (ws : List Jvm.Cond) (A0 : Addr) (h0 : Heap) (n0 : Nat) (Z0 : n0 ≤ h0.size) :
    MetFree l (⟨"com/example/kept_reads/keptreads/wire/ReadGroup", "equals", "(Ljava/lang/Object;)Z"⟩ : MethodName) (head1 (Jvm.Cond.code (⟨"com/example/kept_reads/keptreads/wire/ReadGroup", "equals", "(Ljava/lang/Object;)Z"⟩ : MethodName) prog_43_method_4_code 3 (some .boolean) :: ws) ({ frames := 0, cells := 0, slots := 0, locals := 0 } : Room)) (fun a U => a = #[(.ref A0), .null] ∧ Z.Warmed39 U.vm ∧ U.heap = h0) (fun _ _ _ _ _ => True) (fun _ U o U' => ∃ v L, o = .returned v ∧ QeqN Z A0 h0 n0 v U'.heap L ∧ FrameEnd U o U' L ({ frames := 0, cells := 0, slots := 0, locals := 0 } : Room).cells ({ frames := 0, cells := 0, slots := 0, locals := 0 } : Room).slots) := by
  refine MetFree.of_bodySF (plainFor_of_name pn_5) hisR ?_
  intro p e s m args below meth c s₁ Bd hml0 hP hK
  obtain ⟨rfl, hZ, hh⟩ := hP
  have hx := Bd.exec
  have hby := Bd.bytes
  have hml : c.maxLocals = 3 := hml0
  have hown : s.vm.findClass "com/example/kept_reads/keptreads/wire/ReadGroup" = some m.cls := findClass_of_methodNamed Bd.named
  have hnm := (name_of_methodNamed Bd.named Bd.method).1
  have X0 : Stand p l e ({ frames := 0, cells := 0, slots := 0, locals := 0 } : Room) s m #[(.ref A0), .null] below meth c s₁ [] 0 0 := Stand.of_body Bd
  have e0 : s₁.heap = h0 := by rw [← hh, Bd.state]; rfl
  have N0 := Fr.nil n0
  have pre0 : ∀ t, Steps p.tables e below (s₁.setTop (mkF m 0 #[.val (.ref A0), .val .null, .unset] [])) t → Steps p.tables e below (s₁.setTop (entryFrame m #[(.ref A0), .null] 3)) t := fun t k => castTop (ef_eqN m A0) k
  have pre101 : ∀ t, Steps p.tables e below (s₁.setTop (mkF m 23 #[.val (.ref A0), .val .null, .unset] [(.int (0 : Int32))])) t → Steps p.tables e below (s₁.setTop (entryFrame m #[(.ref A0), .null] 3)) t := fun t kt => pre0 t (by
      show Steps p.tables e below (s₁.setTop (mkF m 0 #[.val (.ref A0), .val .null, .unset] [])) _
      refine XS.aloadN X0.here hx rfl (hb hby d5_0) rfl rfl ?_
      show Steps p.tables e below (s₁.setTop (mkF m 1 #[.val (.ref A0), .val .null, .unset] [(.ref A0)])) _
      refine XS.aloadN X0.here hx rfl (hb hby d5_1) rfl rfl ?_
      show Steps p.tables e below (s₁.setTop (mkF m 2 #[.val (.ref A0), .val .null, .unset] [.null, (.ref A0)])) _
      refine Jvm.RoadKit.acmp (g := (mkF m 2 #[.val (.ref A0), .val .null, .unset] [.null, (.ref A0)])) X0 hx rfl rfl rfl (pc0 := 2) (pc' := 7) (same := false) rfl (hb hby d5_2) rfl (decide_eq_false nofun) (by decide) (by decide) ?_
      show Steps p.tables e below (s₁.setTop (mkF m 7 #[.val (.ref A0), .val .null, .unset] [])) _
      refine XS.aloadN X0.here hx rfl (hb hby d5_7) rfl rfl ?_
      show Steps p.tables e below (s₁.setTop (mkF m 8 #[.val (.ref A0), .val .null, .unset] [.null])) _
      refine X0.instanceofNull hx (g := (mkF m 8 #[.val (.ref A0), .val .null, .unset] [.null])) rfl rfl (hb hby d5_8) _ ?_
      show Steps p.tables e below (s₁.setTop (mkF m 11 #[.val (.ref A0), .val .null, .unset] [(.int (0 : Int32))])) _
      refine XS.ifYes X0.here hx rfl (pc0 := 11) (pc' := 22) rfl (hb hby d5_11) rfl ((if0 _ _).trans (teq (show (0 : Int32) = (0 : Int32) from (by decide))).1) (by decide) (by decide) ?_
      show Steps p.tables e below (s₁.setTop (mkF m 22 #[.val (.ref A0), .val .null, .unset] [])) _
      refine XS.iconst X0.here hx rfl (hb hby d5_22) ?_
      exact kt)
  obtain ⟨fs, hr, hrun, hended, hW, hsame⟩ := X0.leave (v := some (.int (0 : Int32))) (fun h => by rw [Bd.returns] at h; cases h)
  refine ⟨_, _, pre101 _ ?_, hrun, hended, _, _, rfl, ?_, ⟨_, rfl⟩, hW, hsame.mono (by decide) (by decide)⟩
  · show Steps p.tables e below (s₁.setTop (mkF m 23 #[.val (.ref A0), .val .null, .unset] [(.int (0 : Int32))])) _
    exact retN X0 hx (t := .boolean) Bd.returns (by simp) (hb hby d5_23) hr
  · show QeqN Z A0 h0 n0 _ s₁.heap _
    rw [e0]
    exact ⟨rfl, N0, rfl⟩
theorem ef_eqL (m : MethodId) (A0 : Addr) (A1 : Addr) : entryFrame m #[(.ref A0), (.ref A1)] 3 = mkF m 0 #[.val (.ref A0), .val (.ref A1), .unset] [] := by first | (simp [entryFrame, mkF, argsToLocals, Value.category]; done) | rfl
def QeqL (Z : State) (A0 : Addr) (A1 : Addr) (h0 : Heap) (n0 : Nat) (v : Option Value) (h : Heap) (L : List Loc) : Prop := (v = some (.int (0 : Int32))) ∧ (Fr n0 L) ∧ (h = h0)
set_option maxRecDepth 65536 in
set_option maxHeartbeats 40000000 in
theorem rmeqL (l : Launch) (Z : State) (a0 : Array Value) (hw : ∀ d ∈ tables_1, d.before a0 Z = true) (ws : List Jvm.Cond) (A0 : Addr) (A1 : Addr) (h0 : Heap) (n0 : Nat) (Z0 : n0 ≤ h0.size) (pm0 : Exa Z h0 A1 "java/lang/Long") (hne : A0 ≠ A1) :
    MetFree l (⟨"com/example/kept_reads/keptreads/wire/ReadGroup", "equals", "(Ljava/lang/Object;)Z"⟩ : MethodName) (head1 (Jvm.Cond.code (⟨"com/example/kept_reads/keptreads/wire/ReadGroup", "equals", "(Ljava/lang/Object;)Z"⟩ : MethodName) prog_43_method_4_code 3 (some .boolean) :: ws) ({ frames := 0, cells := 0, slots := 0, locals := 0 } : Room)) (fun a U => a = #[(.ref A0), (.ref A1)] ∧ Z.Warmed39 U.vm ∧ U.heap = h0) (fun _ _ _ _ _ => True) (fun _ U o U' => ∃ v L, o = .returned v ∧ QeqL Z A0 A1 h0 n0 v U'.heap L ∧ FrameEnd U o U' L ({ frames := 0, cells := 0, slots := 0, locals := 0 } : Room).cells ({ frames := 0, cells := 0, slots := 0, locals := 0 } : Room).slots) := by
  refine MetFree.of_bodySF (plainFor_of_name pn_5) hisR ?_
  intro p e s m args below meth c s₁ Bd hml0 hP hK
  obtain ⟨rfl, hZ, hh⟩ := hP
  have hx := Bd.exec
  have hby := Bd.bytes
  have hml : c.maxLocals = 3 := hml0
  have hown : s.vm.findClass "com/example/kept_reads/keptreads/wire/ReadGroup" = some m.cls := findClass_of_methodNamed Bd.named
  have hnm := (name_of_methodNamed Bd.named Bd.method).1
  have X0 : Stand p l e ({ frames := 0, cells := 0, slots := 0, locals := 0 } : Room) s m #[(.ref A0), (.ref A1)] below meth c s₁ [] 0 0 := Stand.of_body Bd
  have e0 : s₁.heap = h0 := by rw [← hh, Bd.state]; rfl
  have N0 := Fr.nil n0
  have pre0 : ∀ t, Steps p.tables e below (s₁.setTop (mkF m 0 #[.val (.ref A0), .val (.ref A1), .unset] [])) t → Steps p.tables e below (s₁.setTop (entryFrame m #[(.ref A0), (.ref A1)] 3)) t := fun t k => castTop (ef_eqL m A0 A1) k
  obtain ⟨T101, X101, e101, st101⟩ := instNo X0 hx hZ hown (hw _ (List.mem_of_getElem? (i := 26) rfl)) e0 pm0 (own_notRG hw) (g := (mkF m 8 #[.val (.ref A0), .val (.ref A1), .unset] [(.ref A1)])) rfl rfl (hb hby d5_8)
  have pre102 : ∀ t, Steps p.tables e below (T101.setTop (mkF m 23 #[.val (.ref A0), .val (.ref A1), .unset] [(.int (0 : Int32))])) t → Steps p.tables e below (s₁.setTop (entryFrame m #[(.ref A0), (.ref A1)] 3)) t := fun t kt => pre0 t (by
      show Steps p.tables e below (s₁.setTop (mkF m 0 #[.val (.ref A0), .val (.ref A1), .unset] [])) _
      refine XS.aloadN X0.here hx rfl (hb hby d5_0) rfl rfl ?_
      show Steps p.tables e below (s₁.setTop (mkF m 1 #[.val (.ref A0), .val (.ref A1), .unset] [(.ref A0)])) _
      refine XS.aloadN X0.here hx rfl (hb hby d5_1) rfl rfl ?_
      show Steps p.tables e below (s₁.setTop (mkF m 2 #[.val (.ref A0), .val (.ref A1), .unset] [(.ref A1), (.ref A0)])) _
      refine Jvm.RoadKit.acmp (g := (mkF m 2 #[.val (.ref A0), .val (.ref A1), .unset] [(.ref A1), (.ref A0)])) X0 hx rfl rfl rfl (pc0 := 2) (pc' := 7) (same := false) rfl (hb hby d5_2) rfl (decide_eq_false fun q => hne (Value.ref.inj q)) (by decide) (by decide) ?_
      show Steps p.tables e below (s₁.setTop (mkF m 7 #[.val (.ref A0), .val (.ref A1), .unset] [])) _
      refine XS.aloadN X0.here hx rfl (hb hby d5_7) rfl rfl ?_
      show Steps p.tables e below (s₁.setTop (mkF m 8 #[.val (.ref A0), .val (.ref A1), .unset] [(.ref A1)])) _
      refine st101 _ ?_
      show Steps p.tables e below (T101.setTop (mkF m 11 #[.val (.ref A0), .val (.ref A1), .unset] [(.int (0 : Int32))])) _
      refine XS.ifYes X101.here hx rfl (pc0 := 11) (pc' := 22) rfl (hb hby d5_11) rfl ((if0 _ _).trans (teq (show (0 : Int32) = (0 : Int32) from (by decide))).1) (by decide) (by decide) ?_
      show Steps p.tables e below (T101.setTop (mkF m 22 #[.val (.ref A0), .val (.ref A1), .unset] [])) _
      refine XS.iconst X101.here hx rfl (hb hby d5_22) ?_
      exact kt)
  obtain ⟨fs, hr, hrun, hended, hW, hsame⟩ := X101.leave (v := some (.int (0 : Int32))) (fun h => by rw [Bd.returns] at h; cases h)
  refine ⟨_, _, pre102 _ ?_, hrun, hended, _, _, rfl, ?_, ⟨_, rfl⟩, hW, hsame.mono (by decide) (by decide)⟩
  · show Steps p.tables e below (T101.setTop (mkF m 23 #[.val (.ref A0), .val (.ref A1), .unset] [(.int (0 : Int32))])) _
    exact retN X101 hx (t := .boolean) Bd.returns (by simp) (hb hby d5_23) hr
  · show QeqL Z A0 A1 h0 n0 _ T101.heap _
    rw [e101]
    exact ⟨rfl, N0, rfl⟩
theorem d5_14 : decode prog_43_method_4_code 14 = .ok (.aload_n 1, 1) := by decide +kernel
theorem d5_15 : decode prog_43_method_4_code 15 = .ok (.checkcast 17, 3) := by decide +kernel
theorem d5_18 : decode prog_43_method_4_code 18 = .ok (.astore_n 2, 1) := by decide +kernel
theorem d5_19 : decode prog_43_method_4_code 19 = .ok (.goto 5, 3) := by decide +kernel
theorem d5_24 : decode prog_43_method_4_code 24 = .ok (.aload_n 0, 1) := by decide +kernel
theorem d5_25 : decode prog_43_method_4_code 25 = .ok (.getfield 16, 3) := by decide +kernel
theorem d5_28 : decode prog_43_method_4_code 28 = .ok (.aload_n 2, 1) := by decide +kernel
theorem d5_29 : decode prog_43_method_4_code 29 = .ok (.getfield 16, 3) := by decide +kernel
theorem d5_32 : decode prog_43_method_4_code 32 = .ok (.lcmp, 1) := by decide +kernel
theorem d5_33 : decode prog_43_method_4_code 33 = .ok (.ifCond .ne 18, 3) := by decide +kernel
theorem d5_36 : decode prog_43_method_4_code 36 = .ok (.aload_n 0, 1) := by decide +kernel
theorem d5_37 : decode prog_43_method_4_code 37 = .ok (.getfield 22, 3) := by decide +kernel
theorem d5_40 : decode prog_43_method_4_code 40 = .ok (.aload_n 2, 1) := by decide +kernel
theorem d5_41 : decode prog_43_method_4_code 41 = .ok (.getfield 22, 3) := by decide +kernel
theorem d5_44 : decode prog_43_method_4_code 44 = .ok (.if_icmp .ne 7, 3) := by decide +kernel
theorem d5_47 : decode prog_43_method_4_code 47 = .ok (.iconst 1, 1) := by decide +kernel
theorem d5_48 : decode prog_43_method_4_code 48 = .ok (.goto 4, 3) := by decide +kernel
theorem d5_51 : decode prog_43_method_4_code 51 = .ok (.iconst 0, 1) := by decide +kernel
theorem d5_52 : decode prog_43_method_4_code 52 = .ok (.ireturn, 1) := by decide +kernel
theorem ef_eqR (m : MethodId) (A0 : Addr) (A1 : Addr) : entryFrame m #[(.ref A0), (.ref A1)] 3 = mkF m 0 #[.val (.ref A0), .val (.ref A1), .unset] [] := by first | (simp [entryFrame, mkF, argsToLocals, Value.category]; done) | rfl
def QeqR (Z : State) (A0 : Addr) (A1 : Addr) (W0 : Int64) (W1 : Int32) (W2 : Int64) (W3 : Int32) (h0 : Heap) (n0 : Nat) (v : Option Value) (h : Heap) (L : List Loc) : Prop := (v = some (.int (own_eq W0 W2 W1 W3))) ∧ (Fr n0 L) ∧ (h = h0)
set_option maxRecDepth 65536 in
set_option maxHeartbeats 40000000 in
theorem rmeqR (l : Launch) (Z : State) (a0 : Array Value) (hw : ∀ d ∈ tables_1, d.before a0 Z = true) (ws : List Jvm.Cond) (A0 : Addr) (A1 : Addr) (W0 : Int64) (W1 : Int32) (W2 : Int64) (W3 : Int32) (h0 : Heap) (n0 : Nat) (Z0 : n0 ≤ h0.size) (pm0 : Fld Z h0 A0 "com/example/kept_reads/keptreads/wire/ReadGroup" "transaction" "J" (.long W0)) (pm1 : Fld Z h0 A0 "com/example/kept_reads/keptreads/wire/ReadGroup" "call" "I" (.int W1)) (pm2 : Fld Z h0 A1 "com/example/kept_reads/keptreads/wire/ReadGroup" "transaction" "J" (.long W2)) (pm3 : Fld Z h0 A1 "com/example/kept_reads/keptreads/wire/ReadGroup" "call" "I" (.int W3)) (pm4 : Exa Z h0 A1 "com/example/kept_reads/keptreads/wire/ReadGroup") (hne : A0 ≠ A1) :
    MetFree l (⟨"com/example/kept_reads/keptreads/wire/ReadGroup", "equals", "(Ljava/lang/Object;)Z"⟩ : MethodName) (head1 (Jvm.Cond.code (⟨"com/example/kept_reads/keptreads/wire/ReadGroup", "equals", "(Ljava/lang/Object;)Z"⟩ : MethodName) prog_43_method_4_code 3 (some .boolean) :: ws) ({ frames := 0, cells := 0, slots := 0, locals := 0 } : Room)) (fun a U => a = #[(.ref A0), (.ref A1)] ∧ Z.Warmed39 U.vm ∧ U.heap = h0) (fun _ _ _ _ _ => True) (fun _ U o U' => ∃ v L, o = .returned v ∧ QeqR Z A0 A1 W0 W1 W2 W3 h0 n0 v U'.heap L ∧ FrameEnd U o U' L ({ frames := 0, cells := 0, slots := 0, locals := 0 } : Room).cells ({ frames := 0, cells := 0, slots := 0, locals := 0 } : Room).slots) := by
  refine MetFree.of_bodySF (plainFor_of_name pn_5) hisR ?_
  intro p e s m args below meth c s₁ Bd hml0 hP hK
  obtain ⟨rfl, hZ, hh⟩ := hP
  have hx := Bd.exec
  have hby := Bd.bytes
  have hml : c.maxLocals = 3 := hml0
  have hown : s.vm.findClass "com/example/kept_reads/keptreads/wire/ReadGroup" = some m.cls := findClass_of_methodNamed Bd.named
  have hnm := (name_of_methodNamed Bd.named Bd.method).1
  have X0 : Stand p l e ({ frames := 0, cells := 0, slots := 0, locals := 0 } : Room) s m #[(.ref A0), (.ref A1)] below meth c s₁ [] 0 0 := Stand.of_body Bd
  have e0 : s₁.heap = h0 := by rw [← hh, Bd.state]; rfl
  have N0 := Fr.nil n0
  have pre0 : ∀ t, Steps p.tables e below (s₁.setTop (mkF m 0 #[.val (.ref A0), .val (.ref A1), .unset] [])) t → Steps p.tables e below (s₁.setTop (entryFrame m #[(.ref A0), (.ref A1)] 3)) t := fun t k => castTop (ef_eqR m A0 A1) k
  obtain ⟨T101, X101, e101, st101⟩ := instY X0 hx hZ hown (hw _ (List.mem_of_getElem? (i := 26) rfl)) e0 (Ins.self pm4) (g := (mkF m 8 #[.val (.ref A0), .val (.ref A1), .unset] [(.ref A1)])) rfl rfl (hb hby d5_8)
  obtain ⟨T102, X102, e102, st102⟩ := castY X101 hx hZ hown (hw _ (List.mem_of_getElem? (i := 26) rfl)) e101 (Ins.self pm4) (g := (mkF m 15 #[.val (.ref A0), .val (.ref A1), .unset] [(.ref A1)])) rfl rfl (hb hby d5_15)
  obtain ⟨T103, X103, e103, st103⟩ := getF X102 hx hZ hown (host := "") (Or.inl (hw _ (List.mem_of_getElem? (i := 17) rfl))) Via.refl e102 pm0 (g := (mkF m 25 #[.val (.ref A0), .val (.ref A1), .val (.ref A1)] [(.ref A0)])) rfl rfl (hb hby d5_25)
  obtain ⟨T104, X104, e104, st104⟩ := getF X103 hx hZ hown (host := "") (Or.inl (hw _ (List.mem_of_getElem? (i := 17) rfl))) Via.refl e103 pm2 (g := (mkF m 29 #[.val (.ref A0), .val (.ref A1), .val (.ref A1)] [(.ref A1), (.long W0)])) rfl rfl (hb hby d5_29)
  have pre105 : ∀ t, Steps p.tables e below (T104.setTop (mkF m 33 #[.val (.ref A0), .val (.ref A1), .val (.ref A1)] [(.int (lcmpW W0 W2))])) t → Steps p.tables e below (s₁.setTop (entryFrame m #[(.ref A0), (.ref A1)] 3)) t := fun t kt => pre0 t (by
      show Steps p.tables e below (s₁.setTop (mkF m 0 #[.val (.ref A0), .val (.ref A1), .unset] [])) _
      refine XS.aloadN X0.here hx rfl (hb hby d5_0) rfl rfl ?_
      show Steps p.tables e below (s₁.setTop (mkF m 1 #[.val (.ref A0), .val (.ref A1), .unset] [(.ref A0)])) _
      refine XS.aloadN X0.here hx rfl (hb hby d5_1) rfl rfl ?_
      show Steps p.tables e below (s₁.setTop (mkF m 2 #[.val (.ref A0), .val (.ref A1), .unset] [(.ref A1), (.ref A0)])) _
      refine Jvm.RoadKit.acmp (g := (mkF m 2 #[.val (.ref A0), .val (.ref A1), .unset] [(.ref A1), (.ref A0)])) X0 hx rfl rfl rfl (pc0 := 2) (pc' := 7) (same := false) rfl (hb hby d5_2) rfl (decide_eq_false fun q => hne (Value.ref.inj q)) (by decide) (by decide) ?_
      show Steps p.tables e below (s₁.setTop (mkF m 7 #[.val (.ref A0), .val (.ref A1), .unset] [])) _
      refine XS.aloadN X0.here hx rfl (hb hby d5_7) rfl rfl ?_
      show Steps p.tables e below (s₁.setTop (mkF m 8 #[.val (.ref A0), .val (.ref A1), .unset] [(.ref A1)])) _
      refine st101 _ ?_
      show Steps p.tables e below (T101.setTop (mkF m 11 #[.val (.ref A0), .val (.ref A1), .unset] [(.int (1 : Int32))])) _
      refine XS.ifNo X101.here hx rfl (hb hby d5_11) rfl ((if0 _ _).trans (feq (show ¬ ((1 : Int32) = (0 : Int32)) from (by decide))).1) ?_
      show Steps p.tables e below (T101.setTop (mkF m 14 #[.val (.ref A0), .val (.ref A1), .unset] [])) _
      refine XS.aloadN X101.here hx rfl (hb hby d5_14) rfl rfl ?_
      show Steps p.tables e below (T101.setTop (mkF m 15 #[.val (.ref A0), .val (.ref A1), .unset] [(.ref A1)])) _
      refine st102 _ ?_
      show Steps p.tables e below (T102.setTop (mkF m 18 #[.val (.ref A0), .val (.ref A1), .unset] [(.ref A1)])) _
      refine XS.astoreN X102.here hx rfl (hb hby d5_18) rfl rfl (l' := #[.val (.ref A0), .val (.ref A1), .val (.ref A1)]) rfl ?_
      show Steps p.tables e below (T102.setTop (mkF m 19 #[.val (.ref A0), .val (.ref A1), .val (.ref A1)] [])) _
      refine XS.goto X102.here hx rfl (pc0 := 19) (pc' := 24) rfl (hb hby d5_19) (by decide) (by decide) ?_
      show Steps p.tables e below (T102.setTop (mkF m 24 #[.val (.ref A0), .val (.ref A1), .val (.ref A1)] [])) _
      refine XS.aloadN X102.here hx rfl (hb hby d5_24) rfl rfl ?_
      show Steps p.tables e below (T102.setTop (mkF m 25 #[.val (.ref A0), .val (.ref A1), .val (.ref A1)] [(.ref A0)])) _
      refine st103 _ ?_
      show Steps p.tables e below (T103.setTop (mkF m 28 #[.val (.ref A0), .val (.ref A1), .val (.ref A1)] [(.long W0)])) _
      refine XS.aloadN X103.here hx rfl (hb hby d5_28) rfl rfl ?_
      show Steps p.tables e below (T103.setTop (mkF m 29 #[.val (.ref A0), .val (.ref A1), .val (.ref A1)] [(.ref A1), (.long W0)])) _
      refine st104 _ ?_
      show Steps p.tables e below (T104.setTop (mkF m 32 #[.val (.ref A0), .val (.ref A1), .val (.ref A1)] [(.long W2), (.long W0)])) _
      refine XS.lcmp X104.here hx rfl (hb hby d5_32) rfl ?_
      exact kt)
  by_cases hc33 : W0 = W2
  · obtain ⟨T106, X106, e106, st106⟩ := getF X104 hx hZ hown (host := "") (Or.inl (hw _ (List.mem_of_getElem? (i := 19) rfl))) Via.refl e104 pm1 (g := (mkF m 37 #[.val (.ref A0), .val (.ref A1), .val (.ref A1)] [(.ref A0)])) rfl rfl (hb hby d5_37)
    obtain ⟨T107, X107, e107, st107⟩ := getF X106 hx hZ hown (host := "") (Or.inl (hw _ (List.mem_of_getElem? (i := 19) rfl))) Via.refl e106 pm3 (g := (mkF m 41 #[.val (.ref A0), .val (.ref A1), .val (.ref A1)] [(.ref A1), (.int W1)])) rfl rfl (hb hby d5_41)
    have pre108 : ∀ t, Steps p.tables e below (T107.setTop (mkF m 44 #[.val (.ref A0), .val (.ref A1), .val (.ref A1)] [(.int W3), (.int W1)])) t → Steps p.tables e below (s₁.setTop (entryFrame m #[(.ref A0), (.ref A1)] 3)) t := fun t kt => pre105 t (by
        show Steps p.tables e below (T104.setTop (mkF m 33 #[.val (.ref A0), .val (.ref A1), .val (.ref A1)] [(.int (lcmpW W0 W2))])) _
        refine XS.ifNo X104.here hx rfl (hb hby d5_33) rfl ((if0 _ _).trans (teq ((lw_eq W0 W2).mpr hc33)).2) ?_
        show Steps p.tables e below (T104.setTop (mkF m 36 #[.val (.ref A0), .val (.ref A1), .val (.ref A1)] [])) _
        refine XS.aloadN X104.here hx rfl (hb hby d5_36) rfl rfl ?_
        show Steps p.tables e below (T104.setTop (mkF m 37 #[.val (.ref A0), .val (.ref A1), .val (.ref A1)] [(.ref A0)])) _
        refine st106 _ ?_
        show Steps p.tables e below (T106.setTop (mkF m 40 #[.val (.ref A0), .val (.ref A1), .val (.ref A1)] [(.int W1)])) _
        refine XS.aloadN X106.here hx rfl (hb hby d5_40) rfl rfl ?_
        show Steps p.tables e below (T106.setTop (mkF m 41 #[.val (.ref A0), .val (.ref A1), .val (.ref A1)] [(.ref A1), (.int W1)])) _
        refine st107 _ ?_
        exact kt)
    by_cases hc44 : W1 = W3
    · have pre109 : ∀ t, Steps p.tables e below (T107.setTop (mkF m 52 #[.val (.ref A0), .val (.ref A1), .val (.ref A1)] [(.int (1 : Int32))])) t → Steps p.tables e below (s₁.setTop (entryFrame m #[(.ref A0), (.ref A1)] 3)) t := fun t kt => pre108 t (by
          show Steps p.tables e below (T107.setTop (mkF m 44 #[.val (.ref A0), .val (.ref A1), .val (.ref A1)] [(.int W3), (.int W1)])) _
          refine XS.icmpNo X107.here hx rfl (hb hby d5_44) rfl (teq hc44).2 ?_
          show Steps p.tables e below (T107.setTop (mkF m 47 #[.val (.ref A0), .val (.ref A1), .val (.ref A1)] [])) _
          refine XS.iconst X107.here hx rfl (hb hby d5_47) ?_
          show Steps p.tables e below (T107.setTop (mkF m 48 #[.val (.ref A0), .val (.ref A1), .val (.ref A1)] [(.int (1 : Int32))])) _
          refine XS.goto X107.here hx rfl (pc0 := 48) (pc' := 52) rfl (hb hby d5_48) (by decide) (by decide) ?_
          exact kt)
      obtain ⟨fs, hr, hrun, hended, hW, hsame⟩ := X107.leave (v := some (.int (1 : Int32))) (fun h => by rw [Bd.returns] at h; cases h)
      refine ⟨_, _, pre109 _ ?_, hrun, hended, _, _, rfl, ?_, ⟨_, rfl⟩, hW, hsame.mono (by decide) (by decide)⟩
      · show Steps p.tables e below (T107.setTop (mkF m 52 #[.val (.ref A0), .val (.ref A1), .val (.ref A1)] [(.int (1 : Int32))])) _
        exact retN X107 hx (t := .boolean) Bd.returns (by simp) (hb hby d5_52) hr
      · show QeqR Z A0 A1 W0 W1 W2 W3 h0 n0 _ T107.heap _
        rw [e107]
        exact ⟨(congrArg (fun z => some (Value.int z)) (show (1 : Int32) = (own_eq W0 W2 W1 W3) from by unfold own_eq; rw [if_pos hc33, if_pos hc44])), N0, rfl⟩
    · have pre110 : ∀ t, Steps p.tables e below (T107.setTop (mkF m 52 #[.val (.ref A0), .val (.ref A1), .val (.ref A1)] [(.int (0 : Int32))])) t → Steps p.tables e below (s₁.setTop (entryFrame m #[(.ref A0), (.ref A1)] 3)) t := fun t kt => pre108 t (by
          show Steps p.tables e below (T107.setTop (mkF m 44 #[.val (.ref A0), .val (.ref A1), .val (.ref A1)] [(.int W3), (.int W1)])) _
          refine XS.icmpYes X107.here hx rfl (pc0 := 44) (pc' := 51) rfl (hb hby d5_44) rfl (feq hc44).2 (by decide) (by decide) ?_
          show Steps p.tables e below (T107.setTop (mkF m 51 #[.val (.ref A0), .val (.ref A1), .val (.ref A1)] [])) _
          refine XS.iconst X107.here hx rfl (hb hby d5_51) ?_
          exact kt)
      obtain ⟨fs, hr, hrun, hended, hW, hsame⟩ := X107.leave (v := some (.int (0 : Int32))) (fun h => by rw [Bd.returns] at h; cases h)
      refine ⟨_, _, pre110 _ ?_, hrun, hended, _, _, rfl, ?_, ⟨_, rfl⟩, hW, hsame.mono (by decide) (by decide)⟩
      · show Steps p.tables e below (T107.setTop (mkF m 52 #[.val (.ref A0), .val (.ref A1), .val (.ref A1)] [(.int (0 : Int32))])) _
        exact retN X107 hx (t := .boolean) Bd.returns (by simp) (hb hby d5_52) hr
      · show QeqR Z A0 A1 W0 W1 W2 W3 h0 n0 _ T107.heap _
        rw [e107]
        exact ⟨(congrArg (fun z => some (Value.int z)) (show (0 : Int32) = (own_eq W0 W2 W1 W3) from by unfold own_eq; rw [if_pos hc33, if_neg hc44])), N0, rfl⟩
  · have pre111 : ∀ t, Steps p.tables e below (T104.setTop (mkF m 52 #[.val (.ref A0), .val (.ref A1), .val (.ref A1)] [(.int (0 : Int32))])) t → Steps p.tables e below (s₁.setTop (entryFrame m #[(.ref A0), (.ref A1)] 3)) t := fun t kt => pre105 t (by
        show Steps p.tables e below (T104.setTop (mkF m 33 #[.val (.ref A0), .val (.ref A1), .val (.ref A1)] [(.int (lcmpW W0 W2))])) _
        refine XS.ifYes X104.here hx rfl (pc0 := 33) (pc' := 51) rfl (hb hby d5_33) rfl ((if0 _ _).trans (feq (fun q => hc33 ((lw_eq W0 W2).mp q))).2) (by decide) (by decide) ?_
        show Steps p.tables e below (T104.setTop (mkF m 51 #[.val (.ref A0), .val (.ref A1), .val (.ref A1)] [])) _
        refine XS.iconst X104.here hx rfl (hb hby d5_51) ?_
        exact kt)
    obtain ⟨fs, hr, hrun, hended, hW, hsame⟩ := X104.leave (v := some (.int (0 : Int32))) (fun h => by rw [Bd.returns] at h; cases h)
    refine ⟨_, _, pre111 _ ?_, hrun, hended, _, _, rfl, ?_, ⟨_, rfl⟩, hW, hsame.mono (by decide) (by decide)⟩
    · show Steps p.tables e below (T104.setTop (mkF m 52 #[.val (.ref A0), .val (.ref A1), .val (.ref A1)] [(.int (0 : Int32))])) _
      exact retN X104 hx (t := .boolean) Bd.returns (by simp) (hb hby d5_52) hr
    · show QeqR Z A0 A1 W0 W1 W2 W3 h0 n0 _ T104.heap _
      rw [e104]
      exact ⟨(congrArg (fun z => some (Value.int z)) (show (0 : Int32) = (own_eq W0 W2 W1 W3) from by unfold own_eq; rw [if_neg hc33])), N0, rfl⟩
theorem d8_0 : decode jdk_18_method_1_code 0 = .ok (.aload_n 0, 1) := by decide +kernel
theorem d8_1 : decode jdk_18_method_1_code 1 = .ok (.invokespecial 1, 3) := by decide +kernel
theorem d8_4 : decode jdk_18_method_1_code 4 = .ok (.return_, 1) := by decide +kernel
theorem pn_8 : plainName "java/lang/Number" = true := by first | (simp [plainName, overriddenIn]; done) | decide +kernel
theorem ef_8 (m : MethodId) (A0 : Addr) : entryFrame m #[(.ref A0)] 1 = mkF m 0 #[.val (.ref A0)] [] := by first | (simp [entryFrame, mkF, argsToLocals, Value.category]; done) | rfl
def Q8 (Z : State) (A0 : Addr) (h0 : Heap) (n0 : Nat) (v : Option Value) (h : Heap) (L : List Loc) : Prop := (v = none) ∧ (Fr n0 L) ∧ (h = h0)
set_option maxRecDepth 65536 in
set_option maxHeartbeats 40000000 in
theorem rm8 (l : Launch) (Z : State) (a0 : Array Value) (hw : ∀ d ∈ tables_1, d.before a0 Z = true) (ws : List Jvm.Cond) (A0 : Addr) (h0 : Heap) (n0 : Nat) (Z0 : n0 ≤ h0.size) :
    MetFree l (⟨"java/lang/Number", "<init>", "()V"⟩ : MethodName) (head1 (Jvm.Cond.code (⟨"java/lang/Number", "<init>", "()V"⟩ : MethodName) jdk_18_method_1_code 1 none :: ws) ({ frames := 1, cells := 0, slots := 0, locals := 12 } : Room)) (fun a U => a = #[(.ref A0)] ∧ Z.Warmed39 U.vm ∧ U.heap = h0) (fun _ _ _ _ _ => True) (fun _ U o U' => ∃ v L, o = .returned v ∧ Q8 Z A0 h0 n0 v U'.heap L ∧ FrameEnd U o U' L ({ frames := 1, cells := 0, slots := 0, locals := 12 } : Room).cells ({ frames := 1, cells := 0, slots := 0, locals := 12 } : Room).slots) := by
  refine MetFree.of_bodySF (plainFor_of_name pn_8) hisR ?_
  intro p e s m args below meth c s₁ Bd hml0 hP hK
  obtain ⟨rfl, hZ, hh⟩ := hP
  have hx := Bd.exec
  have hby := Bd.bytes
  have hml : c.maxLocals = 1 := hml0
  have hown : s.vm.findClass "java/lang/Number" = some m.cls := findClass_of_methodNamed Bd.named
  have hnm := (name_of_methodNamed Bd.named Bd.method).1
  have X0 : Stand p l e ({ frames := 1, cells := 0, slots := 0, locals := 12 } : Room) s m #[(.ref A0)] below meth c s₁ [] 0 0 := Stand.of_body Bd
  have e0 : s₁.heap = h0 := by rw [← hh, Bd.state]; rfl
  have N0 := Fr.nil n0
  have pre0 : ∀ t, Steps p.tables e below (s₁.setTop (mkF m 0 #[.val (.ref A0)] [])) t → Steps p.tables e below (s₁.setTop (entryFrame m #[(.ref A0)] 1)) t := fun t k => castTop (ef_8 m A0) k
  obtain ⟨T101, X101, e101, st101⟩ := initO X0 hx hZ hown (hw _ (List.mem_of_getElem? (i := 52) rfl)) (hw _ (List.mem_of_getElem? (i := 15) rfl)) (hw _ (List.mem_of_getElem? (i := 16) rfl)) e0 (g := (mkF m 1 #[.val (.ref A0)] [(.ref A0)])) rfl (by rw [hml]; rfl) rfl (hb hby d8_1) (by decide) (W := 0) (by show 2 * 0 + _ ≤ _; exact Nat.le_of_eq rfl) (by decide)
  have pre102 : ∀ t, Steps p.tables e below (T101.setTop (mkF m 4 #[.val (.ref A0)] [])) t → Steps p.tables e below (s₁.setTop (entryFrame m #[(.ref A0)] 1)) t := fun t kt => pre0 t (by
      show Steps p.tables e below (s₁.setTop (mkF m 0 #[.val (.ref A0)] [])) _
      refine XS.aloadN X0.here hx rfl (hb hby d8_0) rfl rfl ?_
      show Steps p.tables e below (s₁.setTop (mkF m 1 #[.val (.ref A0)] [(.ref A0)])) _
      refine st101 _ ?_
      exact kt)
  obtain ⟨fs, hr, hrun, hended, hW, hsame⟩ := X101.leave (v := none) (fun _ => rfl)
  refine ⟨_, _, pre102 _ ?_, hrun, hended, _, _, rfl, ?_, ⟨_, rfl⟩, hW, hsame.mono (by decide) (by decide)⟩
  · show Steps p.tables e below (T101.setTop (mkF m 4 #[.val (.ref A0)] [])) _
    exact X101.returnOut hx Bd.returns (hb hby d8_4) hr
  · show Q8 Z A0 h0 n0 _ T101.heap _
    rw [e101]
    exact ⟨rfl, N0, rfl⟩
theorem d7_0 : decode jdk_35_method_26_code 0 = .ok (.aload_n 0, 1) := by decide +kernel
theorem d7_1 : decode jdk_35_method_26_code 1 = .ok (.invokespecial 270, 3) := by decide +kernel
theorem d7_4 : decode jdk_35_method_26_code 4 = .ok (.aload_n 0, 1) := by decide +kernel
theorem d7_5 : decode jdk_35_method_26_code 5 = .ok (.lload_n 1, 1) := by decide +kernel
theorem d7_6 : decode jdk_35_method_26_code 6 = .ok (.putfield 273, 3) := by decide +kernel
theorem d7_9 : decode jdk_35_method_26_code 9 = .ok (.return_, 1) := by decide +kernel
theorem pn_7 : plainName "java/lang/Long" = true := by first | (simp [plainName, overriddenIn]; done) | decide +kernel
theorem pd_7_0 : parseMethodDescriptor "()V" = some ⟨[], none⟩ := by decide +kernel
theorem ef_7 (m : MethodId) (A0 : Addr) (P1 : Int64) : entryFrame m #[(.ref A0), (.long P1)] 3 = mkF m 0 #[.val (.ref A0), .val (.long P1), .second] [] := by first | (simp [entryFrame, mkF, argsToLocals, Value.category]; done) | rfl
def Q7 (Z : State) (A0 : Addr) (P1 : Int64) (W0 : Int64) (h0 : Heap) (n0 : Nat) (v : Option Value) (h : Heap) (L : List Loc) : Prop := (v = none) ∧ (Fr n0 L) ∧ (Keep h0 h [A0]) ∧ (Exa Z h A0 "java/lang/Long") ∧ (Fld Z h A0 "java/lang/Long" "value" "J" (.long P1))
set_option maxRecDepth 65536 in
set_option maxHeartbeats 40000000 in
theorem rm7 (l : Launch) (Z : State) (a0 : Array Value) (hw : ∀ d ∈ tables_1, d.before a0 Z = true) (ws : List Jvm.Cond) (A0 : Addr) (P1 : Int64) (W0 : Int64) (h0 : Heap) (n0 : Nat) (Z0 : n0 ≤ h0.size) (pm0 : Fld Z h0 A0 "java/lang/Long" "value" "J" (.long W0)) (pm1 : Exa Z h0 A0 "java/lang/Long") (g_A0 : n0 ≤ A0) :
    MetFree l (⟨"java/lang/Long", "<init>", "(J)V"⟩ : MethodName) (head1 (Jvm.Cond.code (⟨"java/lang/Long", "<init>", "(J)V"⟩ : MethodName) jdk_35_method_26_code 3 none :: ws) ({ frames := 2, cells := 0, slots := 0, locals := 24 } : Room)) (fun a U => a = #[(.ref A0), (.long P1)] ∧ Z.Warmed39 U.vm ∧ U.heap = h0) (fun _ _ _ _ _ => True) (fun _ U o U' => ∃ v L, o = .returned v ∧ Q7 Z A0 P1 W0 h0 n0 v U'.heap L ∧ FrameEnd U o U' L ({ frames := 2, cells := 0, slots := 0, locals := 24 } : Room).cells ({ frames := 2, cells := 0, slots := 0, locals := 24 } : Room).slots) := by
  refine MetFree.of_bodySF (plainFor_of_name pn_7) hisR ?_
  intro p e s m args below meth c s₁ Bd hml0 hP hK
  obtain ⟨rfl, hZ, hh⟩ := hP
  have hx := Bd.exec
  have hby := Bd.bytes
  have hml : c.maxLocals = 3 := hml0
  have hown : s.vm.findClass "java/lang/Long" = some m.cls := findClass_of_methodNamed Bd.named
  have hnm := (name_of_methodNamed Bd.named Bd.method).1
  have X0 : Stand p l e ({ frames := 2, cells := 0, slots := 0, locals := 24 } : Room) s m #[(.ref A0), (.long P1)] below meth c s₁ [] 0 0 := Stand.of_body Bd
  have e0 : s₁.heap = h0 := by rw [← hh, Bd.state]; rfl
  have N0 := Fr.nil n0
  have pre0 : ∀ t, Steps p.tables e below (s₁.setTop (mkF m 0 #[.val (.ref A0), .val (.long P1), .second] [])) t → Steps p.tables e below (s₁.setTop (entryFrame m #[(.ref A0), (.long P1)] 3)) t := fun t k => castTop (ef_7 m A0 P1) k
  have K_0 : Keep h0 h0 [A0] := Keep.refl h0 _
  obtain ⟨_, _, ⟨T101, L101, k101, n101⟩, -, X101, ⟨Lc101, hQ101, l101, y101, z101⟩, st101⟩ := X0.specialBack hx (y := (⟨"java/lang/Number", "<init>", "()V"⟩ : MethodName)) rfl hown (mvT hZ (hw _ (List.mem_of_getElem? (i := 46) rfl))) (mvT hZ (hw _ (List.mem_of_getElem? (i := 47) rfl))) (mvT hZ (hw _ (List.mem_of_getElem? (i := 51) rfl))) (by decide) (backOf (W := 0) (rm8 l Z a0 hw [] A0 h0 n0 Z0 ) hZ (hw _ (List.mem_of_getElem? (i := 51) rfl)) (hw _ (List.mem_of_getElem? (i := 50) rfl)) (by decide) (by decide)) (g := (mkF m 1 #[.val (.ref A0), .val (.long P1), .second] [(.ref A0)])) rfl (by rw [hml]; rfl) (Steps.refl _) (a := A0) (argsL := []) (rest := []) (lenOf pd_7_0 rfl) rfl (by show 2 * 0 + _ ≤ _; exact Nat.le_of_eq rfl) (hb hby d7_1) (fun _ _ => ⟨rfl, e0, (by decide : 0 + 0 ≤ _), (by decide : 0 + 0 ≤ _)⟩)
  dsimp only [Pt.U, Pt.locs, Pt.cells, Pt.slots] at X101 l101 y101 z101 st101 hQ101
  subst l101 y101 z101
  obtain ⟨rfl, N101q, K101⟩ := hQ101
  have N101 := Fr.app N0 N101q
  obtain ⟨T102, h102, X102, e102, W102, st102⟩ := putF X101 hx hZ hown (host := "") (Or.inl (hw _ (List.mem_of_getElem? (i := 53) rfl))) Via.refl K101 pm0 pm1 (Or.inr ⟨(hw _ (List.mem_of_getElem? (i := 54) rfl)), rfl, hnm⟩) (hw _ (List.mem_of_getElem? (i := 41) rfl)) (ty := .long) (by decide) rfl rfl (g := (mkF m 6 #[.val (.ref A0), .val (.long P1), .second] [(.long P1), (.ref A0)])) rfl rfl (hb hby d7_6)
  have Z103 : n0 ≤ h102.size := Nat.le_trans Z0 (Nat.le_of_eq W102.size.symm)
  have K_103 : Keep h0 h102 [A0] := K_0.wr W102 (Or.inl (List.mem_of_getElem? (i := 0) rfl))
  have Fw102 : Fld Z h102 A0 "java/lang/Long" "value" "J" (.long P1) := pm0.same W102
  have N102 := Fr.snoc X102 N101 g_A0
  have pre104 : ∀ t, Steps p.tables e below (T102.setTop (mkF m 9 #[.val (.ref A0), .val (.long P1), .second] [])) t → Steps p.tables e below (s₁.setTop (entryFrame m #[(.ref A0), (.long P1)] 3)) t := fun t kt => pre0 t (by
      show Steps p.tables e below (s₁.setTop (mkF m 0 #[.val (.ref A0), .val (.long P1), .second] [])) _
      refine XS.aloadN X0.here hx rfl (hb hby d7_0) rfl rfl ?_
      show Steps p.tables e below (s₁.setTop (mkF m 1 #[.val (.ref A0), .val (.long P1), .second] [(.ref A0)])) _
      refine st101.trans ?_
      show Steps p.tables e below (T101.setTop (mkF m 4 #[.val (.ref A0), .val (.long P1), .second] [])) _
      refine XS.aloadN X101.here hx rfl (hb hby d7_4) rfl rfl ?_
      show Steps p.tables e below (T101.setTop (mkF m 5 #[.val (.ref A0), .val (.long P1), .second] [(.ref A0)])) _
      refine XS.lloadN X101.here hx rfl (hb hby d7_5) rfl ?_
      show Steps p.tables e below (T101.setTop (mkF m 6 #[.val (.ref A0), .val (.long P1), .second] [(.long P1), (.ref A0)])) _
      refine st102 _ ?_
      exact kt)
  have c105 : Exa Z h102 A0 "java/lang/Long" := (pm1.wr W102)
  obtain ⟨fs, hr, hrun, hended, hW, hsame⟩ := X102.leave (v := none) (fun _ => rfl)
  refine ⟨_, _, pre104 _ ?_, hrun, hended, _, _, rfl, ?_, ⟨_, rfl⟩, hW, hsame.mono (by decide) (by decide)⟩
  · show Steps p.tables e below (T102.setTop (mkF m 9 #[.val (.ref A0), .val (.long P1), .second] [])) _
    exact X102.returnOut hx Bd.returns (hb hby d7_9) hr
  · show Q7 Z A0 P1 W0 h0 n0 _ T102.heap _
    rw [e102]
    exact ⟨rfl, N102, K_103, c105, Fw102⟩
theorem d6_0 : decode jdk_35_method_24_code 0 = .ok (.sipush 128, 3) := by decide +kernel
theorem d6_3 : decode jdk_35_method_24_code 3 = .ok (.istore_n 2, 1) := by decide +kernel
theorem d6_4 : decode jdk_35_method_24_code 4 = .ok (.lload_n 0, 1) := by decide +kernel
theorem d6_5 : decode jdk_35_method_24_code 5 = .ok (.ldc2_w 230, 3) := by decide +kernel
theorem d6_8 : decode jdk_35_method_24_code 8 = .ok (.lcmp, 1) := by decide +kernel
theorem d6_9 : decode jdk_35_method_24_code 9 = .ok (.ifCond .lt 22, 3) := by decide +kernel
theorem d6_12 : decode jdk_35_method_24_code 12 = .ok (.lload_n 0, 1) := by decide +kernel
theorem d6_13 : decode jdk_35_method_24_code 13 = .ok (.ldc2_w 232, 3) := by decide +kernel
theorem d6_16 : decode jdk_35_method_24_code 16 = .ok (.lcmp, 1) := by decide +kernel
theorem d6_17 : decode jdk_35_method_24_code 17 = .ok (.ifCond .gt 14, 3) := by decide +kernel
theorem d6_20 : decode jdk_35_method_24_code 20 = .ok (.getstatic 234, 3) := by decide +kernel
theorem d6_23 : decode jdk_35_method_24_code 23 = .ok (.lload_n 0, 1) := by decide +kernel
theorem d6_24 : decode jdk_35_method_24_code 24 = .ok (.l2i, 1) := by decide +kernel
theorem d6_25 : decode jdk_35_method_24_code 25 = .ok (.sipush 128, 3) := by decide +kernel
theorem d6_28 : decode jdk_35_method_24_code 28 = .ok (.iadd, 1) := by decide +kernel
theorem d6_29 : decode jdk_35_method_24_code 29 = .ok (.aaload, 1) := by decide +kernel
theorem d6_30 : decode jdk_35_method_24_code 30 = .ok (.areturn, 1) := by decide +kernel
theorem d6_31 : decode jdk_35_method_24_code 31 = .ok (.new 1, 3) := by decide +kernel
theorem d6_34 : decode jdk_35_method_24_code 34 = .ok (.dup, 1) := by decide +kernel
theorem d6_35 : decode jdk_35_method_24_code 35 = .ok (.lload_n 0, 1) := by decide +kernel
theorem d6_36 : decode jdk_35_method_24_code 36 = .ok (.invokespecial 240, 3) := by decide +kernel
theorem d6_39 : decode jdk_35_method_24_code 39 = .ok (.areturn, 1) := by decide +kernel
theorem pn_6 : plainName "java/lang/Long" = true := by first | (simp [plainName, overriddenIn]; done) | decide +kernel
theorem pd_6_0 : parseMethodDescriptor "(J)V" = some ⟨[.long], none⟩ := by decide +kernel
theorem ef_6 (m : MethodId) (P0 : Int64) : entryFrame m #[(.long P0)] 3 = mkF m 0 #[.val (.long P0), .second, .unset] [] := by first | (simp [entryFrame, mkF, argsToLocals, Value.category]; done) | rfl
def Q6 (Z : State) (P0 : Int64) (U0 : Addr) (h0 : Heap) (n0 : Nat) (v : Option Value) (h : Heap) (L : List Loc) : Prop := ∃ R0 : Addr, (v = some (.ref R0)) ∧ (Fr n0 L) ∧ (Keep h0 h []) ∧ (Exa Z h R0 "java/lang/Long")
set_option maxRecDepth 65536 in
set_option maxHeartbeats 40000000 in
theorem rm6 (l : Launch) (Z : State) (a0 : Array Value) (hw : ∀ d ∈ tables_1, d.before a0 Z = true) (ws : List Jvm.Cond) (P0 : Int64) (U0 : Addr) (h0 : Heap) (n0 : Nat) (Z0 : n0 ≤ h0.size) (pm0 : Sta Z h0 "java/lang/Long$LongCache" "cache" "[Ljava/lang/Long;" (.ref U0)) (pm1 : own_Cac Z h0 "java/lang/Long" U0) :
    MetFree l (⟨"java/lang/Long", "valueOf", "(J)Ljava/lang/Long;"⟩ : MethodName) (head1 (Jvm.Cond.code (⟨"java/lang/Long", "valueOf", "(J)Ljava/lang/Long;"⟩ : MethodName) jdk_35_method_24_code 3 (some (.object "java/lang/Long")) :: ws) ({ frames := 3, cells := 1, slots := 1, locals := 39 } : Room)) (fun a U => a = #[(.long P0)] ∧ Z.Warmed39 U.vm ∧ U.heap = h0) (fun _ _ _ _ _ => True) (fun _ U o U' => ∃ v L, o = .returned v ∧ Q6 Z P0 U0 h0 n0 v U'.heap L ∧ FrameEnd U o U' L ({ frames := 3, cells := 1, slots := 1, locals := 39 } : Room).cells ({ frames := 3, cells := 1, slots := 1, locals := 39 } : Room).slots) := by
  refine MetFree.of_bodySF (plainFor_of_name pn_6) hisR ?_
  intro p e s m args below meth c s₁ Bd hml0 hP hK
  obtain ⟨rfl, hZ, hh⟩ := hP
  have hx := Bd.exec
  have hby := Bd.bytes
  have hml : c.maxLocals = 3 := hml0
  have hown : s.vm.findClass "java/lang/Long" = some m.cls := findClass_of_methodNamed Bd.named
  have hnm := (name_of_methodNamed Bd.named Bd.method).1
  have X0 : Stand p l e ({ frames := 3, cells := 1, slots := 1, locals := 39 } : Room) s m #[(.long P0)] below meth c s₁ [] 0 0 := Stand.of_body Bd
  have e0 : s₁.heap = h0 := by rw [← hh, Bd.state]; rfl
  have N0 := Fr.nil n0
  have pre0 : ∀ t, Steps p.tables e below (s₁.setTop (mkF m 0 #[.val (.long P0), .second, .unset] [])) t → Steps p.tables e below (s₁.setTop (entryFrame m #[(.long P0)] 3)) t := fun t k => castTop (ef_6 m P0) k
  have K_0 : Keep h0 h0 [] := Keep.refl h0 _
  have pre101 : ∀ t, Steps p.tables e below (s₁.setTop (mkF m 9 #[.val (.long P0), .second, .val (.int (128 : Int32))] [(.int (lcmpW P0 (-128 : Int64)))])) t → Steps p.tables e below (s₁.setTop (entryFrame m #[(.long P0)] 3)) t := fun t kt => pre0 t (by
      show Steps p.tables e below (s₁.setTop (mkF m 0 #[.val (.long P0), .second, .unset] [])) _
      refine XS.sipush X0.here hx rfl (hb hby d6_0) ?_
      show Steps p.tables e below (s₁.setTop (mkF m 3 #[.val (.long P0), .second, .unset] [(.int (128 : Int32))])) _
      refine XS.istoreN X0.here hx rfl (hb hby d6_3) rfl (l' := #[.val (.long P0), .second, .val (.int (128 : Int32))]) rfl ?_
      show Steps p.tables e below (s₁.setTop (mkF m 4 #[.val (.long P0), .second, .val (.int (128 : Int32))] [])) _
      refine XS.lloadN X0.here hx rfl (hb hby d6_4) rfl ?_
      show Steps p.tables e below (s₁.setTop (mkF m 5 #[.val (.long P0), .second, .val (.int (128 : Int32))] [(.long P0)])) _
      refine X0.ldc2Long hx hown (mvT hZ (hw _ (List.mem_of_getElem? (i := 32) rfl))) (g := (mkF m 5 #[.val (.long P0), .second, .val (.int (128 : Int32))] [(.long P0)])) rfl (hb hby d6_5) _ ?_
      show Steps p.tables e below (s₁.setTop (mkF m 8 #[.val (.long P0), .second, .val (.int (128 : Int32))] [(.long (-128 : Int64)), (.long P0)])) _
      refine XS.lcmp X0.here hx rfl (hb hby d6_8) rfl ?_
      exact kt)
  by_cases hc9 : P0 < (-128 : Int64)
  · obtain ⟨T102, h102, X102, e102, E102, A102, D102, -, st102⟩ := newO X0 hx hZ hown (hw _ (List.mem_of_getElem? (i := 40) rfl)) (hw _ (List.mem_of_getElem? (i := 41) rfl)) (hw _ (List.mem_of_getElem? (i := 30) rfl)) e0 (g := (mkF m 31 #[.val (.long P0), .second, .val (.int (128 : Int32))] [])) rfl (hb hby d6_31) (by decide) (by decide)
    obtain ⟨b102, q102⟩ : ∃ z, z = h0.size := ⟨_, rfl⟩
    rw [← q102] at A102 D102 st102
    have ne103 : U0 ≠ b102 := Nat.ne_of_lt (Nat.lt_of_lt_of_le pm1.lt (Nat.le_of_eq q102.symm))
    have g_b102 : n0 ≤ b102 := Nat.le_trans Z0 (Nat.le_of_eq q102.symm)
    have sz_b102 : h0.size ≤ b102 := Nat.le_trans K_0.1 (Nat.le_of_eq q102.symm)
    have Z104 : n0 ≤ h102.size := Nat.le_trans Z0 E102.1
    have K_104 : Keep h0 h102 [] := K_0.ext E102
    have F102_54 : Fld Z h102 b102 "java/lang/Long" "value" "J" (.long (0 : Int64)) := D102 (Or.inr (hw _ (List.mem_of_getElem? (i := 54) rfl))) (ty := .long) (by decide)
    have c105 : Sta Z h102 "java/lang/Long$LongCache" "cache" "[Ljava/lang/Long;" (.ref U0) := (pm0.ext E102)
    obtain ⟨_, _, ⟨T106, L106, k106, n106⟩, -, X106, ⟨Lc106, hQ106, l106, y106, z106⟩, st106⟩ := X102.specialBack hx (y := (⟨"java/lang/Long", "<init>", "(J)V"⟩ : MethodName)) rfl hown (mvT hZ (hw _ (List.mem_of_getElem? (i := 42) rfl))) (mvT hZ (hw _ (List.mem_of_getElem? (i := 43) rfl))) (mvT hZ (hw _ (List.mem_of_getElem? (i := 45) rfl))) (by decide) (backOf (W := 1) (rm7 l Z a0 hw [] b102 P0 (0 : Int64) h102 n0 Z104 F102_54 A102 g_b102) hZ (hw _ (List.mem_of_getElem? (i := 45) rfl)) (hw _ (List.mem_of_getElem? (i := 30) rfl)) (by decide) (by decide)) (g := (mkF m 36 #[.val (.long P0), .second, .val (.int (128 : Int32))] [(.long P0), (.ref b102), (.ref b102)])) rfl (by rw [hml]; rfl) (Steps.refl _) (a := b102) (argsL := [(.long P0)]) (rest := [(.ref b102)]) (lenOf pd_6_0 rfl) rfl (by show 2 * 0 + _ ≤ _; exact Nat.le_of_eq rfl) (hb hby d6_36) (fun _ _ => ⟨rfl, e102, (by decide : 1 + 0 ≤ _), (by decide : 1 + 0 ≤ _)⟩)
    dsimp only [Pt.U, Pt.locs, Pt.cells, Pt.slots] at X106 l106 y106 z106 st106 hQ106
    subst l106 y106 z106
    obtain ⟨rfl, N106q, K106, p106_0, p106_1⟩ := hQ106
    have N106 := Fr.app N0 N106q
    have Z107 : n0 ≤ T106.heap.size := Nat.le_trans Z104 K106.1
    have K_107 : Keep h0 T106.heap [] := K_104.trans K106 (allS (Or.inr sz_b102) all0)
    have ss106_0 : Sta Z T106.heap "java/lang/Long$LongCache" "cache" "[Ljava/lang/Long;" (.ref U0) := own_sta_keep c105 K106 (allS (own_ns A102) all0)
    have pre108 : ∀ t, Steps p.tables e below (T106.setTop (mkF m 39 #[.val (.long P0), .second, .val (.int (128 : Int32))] [(.ref b102)])) t → Steps p.tables e below (s₁.setTop (entryFrame m #[(.long P0)] 3)) t := fun t kt => pre101 t (by
        show Steps p.tables e below (s₁.setTop (mkF m 9 #[.val (.long P0), .second, .val (.int (128 : Int32))] [(.int (lcmpW P0 (-128 : Int64)))])) _
        refine XS.ifYes X0.here hx rfl (pc0 := 9) (pc' := 31) rfl (hb hby d6_9) rfl ((if0 _ _).trans (tlt ((lw_lt P0 (-128 : Int64)).mpr hc9)).1) (by decide) (by decide) ?_
        show Steps p.tables e below (s₁.setTop (mkF m 31 #[.val (.long P0), .second, .val (.int (128 : Int32))] [])) _
        refine st102 _ ?_
        show Steps p.tables e below (T102.setTop (mkF m 34 #[.val (.long P0), .second, .val (.int (128 : Int32))] [(.ref b102)])) _
        refine XS.dup X102.here hx rfl (hb hby d6_34) rfl rfl ?_
        show Steps p.tables e below (T102.setTop (mkF m 35 #[.val (.long P0), .second, .val (.int (128 : Int32))] [(.ref b102), (.ref b102)])) _
        refine XS.lloadN X102.here hx rfl (hb hby d6_35) rfl ?_
        show Steps p.tables e below (T102.setTop (mkF m 36 #[.val (.long P0), .second, .val (.int (128 : Int32))] [(.long P0), (.ref b102), (.ref b102)])) _
        refine st106.trans ?_
        exact kt)
    obtain ⟨fs, hr, hrun, hended, hW, hsame⟩ := X106.leave (v := some (.ref b102)) (fun h => by rw [Bd.returns] at h; cases h)
    refine ⟨_, _, pre108 _ ?_, hrun, hended, _, _, rfl, ?_, ⟨_, rfl⟩, hW, hsame.mono (by decide) (by decide)⟩
    · show Steps p.tables e below (T106.setTop (mkF m 39 #[.val (.long P0), .second, .val (.int (128 : Int32))] [(.ref b102)])) _
      exact retOut X106 hx Bd.returns rfl (Or.inr (Or.inr (Or.inr (Or.inr ⟨rfl, rfl, rfl⟩)))) (hb hby d6_39) hr
    · show Q6 Z P0 U0 h0 n0 _ T106.heap _
      exact ⟨b102, rfl, N106, K_107, p106_0⟩
  · have pre109 : ∀ t, Steps p.tables e below (s₁.setTop (mkF m 17 #[.val (.long P0), .second, .val (.int (128 : Int32))] [(.int (lcmpW P0 (127 : Int64)))])) t → Steps p.tables e below (s₁.setTop (entryFrame m #[(.long P0)] 3)) t := fun t kt => pre101 t (by
        show Steps p.tables e below (s₁.setTop (mkF m 9 #[.val (.long P0), .second, .val (.int (128 : Int32))] [(.int (lcmpW P0 (-128 : Int64)))])) _
        refine XS.ifNo X0.here hx rfl (hb hby d6_9) rfl ((if0 _ _).trans (flt (fun q => hc9 ((lw_lt P0 (-128 : Int64)).mp q))).1) ?_
        show Steps p.tables e below (s₁.setTop (mkF m 12 #[.val (.long P0), .second, .val (.int (128 : Int32))] [])) _
        refine XS.lloadN X0.here hx rfl (hb hby d6_12) rfl ?_
        show Steps p.tables e below (s₁.setTop (mkF m 13 #[.val (.long P0), .second, .val (.int (128 : Int32))] [(.long P0)])) _
        refine X0.ldc2Long hx hown (mvT hZ (hw _ (List.mem_of_getElem? (i := 33) rfl))) (g := (mkF m 13 #[.val (.long P0), .second, .val (.int (128 : Int32))] [(.long P0)])) rfl (hb hby d6_13) _ ?_
        show Steps p.tables e below (s₁.setTop (mkF m 16 #[.val (.long P0), .second, .val (.int (128 : Int32))] [(.long (127 : Int64)), (.long P0)])) _
        refine XS.lcmp X0.here hx rfl (hb hby d6_16) rfl ?_
        exact kt)
    by_cases hc17 : (127 : Int64) < P0
    · obtain ⟨T110, h110, X110, e110, E110, A110, D110, -, st110⟩ := newO X0 hx hZ hown (hw _ (List.mem_of_getElem? (i := 40) rfl)) (hw _ (List.mem_of_getElem? (i := 41) rfl)) (hw _ (List.mem_of_getElem? (i := 30) rfl)) e0 (g := (mkF m 31 #[.val (.long P0), .second, .val (.int (128 : Int32))] [])) rfl (hb hby d6_31) (by decide) (by decide)
      obtain ⟨b110, q110⟩ : ∃ z, z = h0.size := ⟨_, rfl⟩
      rw [← q110] at A110 D110 st110
      have ne111 : U0 ≠ b110 := Nat.ne_of_lt (Nat.lt_of_lt_of_le pm1.lt (Nat.le_of_eq q110.symm))
      have g_b110 : n0 ≤ b110 := Nat.le_trans Z0 (Nat.le_of_eq q110.symm)
      have sz_b110 : h0.size ≤ b110 := Nat.le_trans K_0.1 (Nat.le_of_eq q110.symm)
      have Z112 : n0 ≤ h110.size := Nat.le_trans Z0 E110.1
      have K_112 : Keep h0 h110 [] := K_0.ext E110
      have F110_54 : Fld Z h110 b110 "java/lang/Long" "value" "J" (.long (0 : Int64)) := D110 (Or.inr (hw _ (List.mem_of_getElem? (i := 54) rfl))) (ty := .long) (by decide)
      have c113 : Sta Z h110 "java/lang/Long$LongCache" "cache" "[Ljava/lang/Long;" (.ref U0) := (pm0.ext E110)
      obtain ⟨_, _, ⟨T114, L114, k114, n114⟩, -, X114, ⟨Lc114, hQ114, l114, y114, z114⟩, st114⟩ := X110.specialBack hx (y := (⟨"java/lang/Long", "<init>", "(J)V"⟩ : MethodName)) rfl hown (mvT hZ (hw _ (List.mem_of_getElem? (i := 42) rfl))) (mvT hZ (hw _ (List.mem_of_getElem? (i := 43) rfl))) (mvT hZ (hw _ (List.mem_of_getElem? (i := 45) rfl))) (by decide) (backOf (W := 1) (rm7 l Z a0 hw [] b110 P0 (0 : Int64) h110 n0 Z112 F110_54 A110 g_b110) hZ (hw _ (List.mem_of_getElem? (i := 45) rfl)) (hw _ (List.mem_of_getElem? (i := 30) rfl)) (by decide) (by decide)) (g := (mkF m 36 #[.val (.long P0), .second, .val (.int (128 : Int32))] [(.long P0), (.ref b110), (.ref b110)])) rfl (by rw [hml]; rfl) (Steps.refl _) (a := b110) (argsL := [(.long P0)]) (rest := [(.ref b110)]) (lenOf pd_6_0 rfl) rfl (by show 2 * 0 + _ ≤ _; exact Nat.le_of_eq rfl) (hb hby d6_36) (fun _ _ => ⟨rfl, e110, (by decide : 1 + 0 ≤ _), (by decide : 1 + 0 ≤ _)⟩)
      dsimp only [Pt.U, Pt.locs, Pt.cells, Pt.slots] at X114 l114 y114 z114 st114 hQ114
      subst l114 y114 z114
      obtain ⟨rfl, N114q, K114, p114_0, p114_1⟩ := hQ114
      have N114 := Fr.app N0 N114q
      have Z115 : n0 ≤ T114.heap.size := Nat.le_trans Z112 K114.1
      have K_115 : Keep h0 T114.heap [] := K_112.trans K114 (allS (Or.inr sz_b110) all0)
      have ss114_0 : Sta Z T114.heap "java/lang/Long$LongCache" "cache" "[Ljava/lang/Long;" (.ref U0) := own_sta_keep c113 K114 (allS (own_ns A110) all0)
      have pre116 : ∀ t, Steps p.tables e below (T114.setTop (mkF m 39 #[.val (.long P0), .second, .val (.int (128 : Int32))] [(.ref b110)])) t → Steps p.tables e below (s₁.setTop (entryFrame m #[(.long P0)] 3)) t := fun t kt => pre109 t (by
          show Steps p.tables e below (s₁.setTop (mkF m 17 #[.val (.long P0), .second, .val (.int (128 : Int32))] [(.int (lcmpW P0 (127 : Int64)))])) _
          refine XS.ifYes X0.here hx rfl (pc0 := 17) (pc' := 31) rfl (hb hby d6_17) rfl ((if0 _ _).trans (tlt ((lw_gt P0 (127 : Int64)).mpr hc17)).2.2.1) (by decide) (by decide) ?_
          show Steps p.tables e below (s₁.setTop (mkF m 31 #[.val (.long P0), .second, .val (.int (128 : Int32))] [])) _
          refine st110 _ ?_
          show Steps p.tables e below (T110.setTop (mkF m 34 #[.val (.long P0), .second, .val (.int (128 : Int32))] [(.ref b110)])) _
          refine XS.dup X110.here hx rfl (hb hby d6_34) rfl rfl ?_
          show Steps p.tables e below (T110.setTop (mkF m 35 #[.val (.long P0), .second, .val (.int (128 : Int32))] [(.ref b110), (.ref b110)])) _
          refine XS.lloadN X110.here hx rfl (hb hby d6_35) rfl ?_
          show Steps p.tables e below (T110.setTop (mkF m 36 #[.val (.long P0), .second, .val (.int (128 : Int32))] [(.long P0), (.ref b110), (.ref b110)])) _
          refine st114.trans ?_
          exact kt)
      obtain ⟨fs, hr, hrun, hended, hW, hsame⟩ := X114.leave (v := some (.ref b110)) (fun h => by rw [Bd.returns] at h; cases h)
      refine ⟨_, _, pre116 _ ?_, hrun, hended, _, _, rfl, ?_, ⟨_, rfl⟩, hW, hsame.mono (by decide) (by decide)⟩
      · show Steps p.tables e below (T114.setTop (mkF m 39 #[.val (.long P0), .second, .val (.int (128 : Int32))] [(.ref b110)])) _
        exact retOut X114 hx Bd.returns rfl (Or.inr (Or.inr (Or.inr (Or.inr ⟨rfl, rfl, rfl⟩)))) (hb hby d6_39) hr
      · show Q6 Z P0 U0 h0 n0 _ T114.heap _
        exact ⟨b110, rfl, N114, K_115, p114_0⟩
    · obtain ⟨T117, X117, e117, st117⟩ := getS2 X0 hx hZ hown (host := "") (Or.inl (hw _ (List.mem_of_getElem? (i := 34) rfl))) Via.refl e0 pm0 (g := (mkF m 20 #[.val (.long P0), .second, .val (.int (128 : Int32))] [])) rfl (hb hby d6_20)
      obtain ⟨cl118, Ar118, sz118, al118⟩ := id pm1
      obtain ⟨ok118, lt118⟩ := LongBox.place_okL P0 hc9 hc17
      have hin118 : ¬ (((P0.toInt32) + (128 : Int32)) < 0 ∨ cl118.slots.size ≤ (((P0.toInt32) + (128 : Int32))).toNatClampNeg) := by rw [sz118]; exact ok118
      obtain ⟨bx118, hat118, hex118⟩ := al118 _ lt118
      have pre119 : ∀ t, Steps p.tables e below (T117.setTop (mkF m 30 #[.val (.long P0), .second, .val (.int (128 : Int32))] [(.ref bx118)])) t → Steps p.tables e below (s₁.setTop (entryFrame m #[(.long P0)] 3)) t := fun t kt => pre109 t (by
          show Steps p.tables e below (s₁.setTop (mkF m 17 #[.val (.long P0), .second, .val (.int (128 : Int32))] [(.int (lcmpW P0 (127 : Int64)))])) _
          refine XS.ifNo X0.here hx rfl (hb hby d6_17) rfl ((if0 _ _).trans (flt (fun q => hc17 ((lw_gt P0 (127 : Int64)).mp q))).2.2.1) ?_
          show Steps p.tables e below (s₁.setTop (mkF m 20 #[.val (.long P0), .second, .val (.int (128 : Int32))] [])) _
          refine st117 _ ?_
          show Steps p.tables e below (T117.setTop (mkF m 23 #[.val (.long P0), .second, .val (.int (128 : Int32))] [(.ref U0)])) _
          refine XS.lloadN X117.here hx rfl (hb hby d6_23) rfl ?_
          show Steps p.tables e below (T117.setTop (mkF m 24 #[.val (.long P0), .second, .val (.int (128 : Int32))] [(.long P0), (.ref U0)])) _
          refine XS.l2i X117.here hx rfl (hb hby d6_24) rfl ?_
          show Steps p.tables e below (T117.setTop (mkF m 25 #[.val (.long P0), .second, .val (.int (128 : Int32))] [(.int (P0.toInt32)), (.ref U0)])) _
          refine XS.sipush X117.here hx rfl (hb hby d6_25) ?_
          show Steps p.tables e below (T117.setTop (mkF m 28 #[.val (.long P0), .second, .val (.int (128 : Int32))] [(.int (128 : Int32)), (.int (P0.toInt32)), (.ref U0)])) _
          refine XS.iadd X117.here hx rfl (hb hby d6_28) rfl ?_
          show Steps p.tables e below (T117.setTop (mkF m 29 #[.val (.long P0), .second, .val (.int (128 : Int32))] [(.int ((P0.toInt32) + (128 : Int32))), (.ref U0)])) _
          refine X117.aaload hx (j := ((P0.toInt32) + (128 : Int32))) (v := (.ref bx118)) (by rw [e117]; exact Ar118.1) (State.isArrayOf_alike hZ.alike Ar118.2.1) rfl Ar118.2.2 hin118 hat118 (g := (mkF m 29 #[.val (.long P0), .second, .val (.int (128 : Int32))] [(.int ((P0.toInt32) + (128 : Int32))), (.ref U0)])) rfl rfl (hb hby d6_29) _ ?_
          exact kt)
      obtain ⟨fs, hr, hrun, hended, hW, hsame⟩ := X117.leave (v := some (.ref bx118)) (fun h => by rw [Bd.returns] at h; cases h)
      refine ⟨_, _, pre119 _ ?_, hrun, hended, _, _, rfl, ?_, ⟨_, rfl⟩, hW, hsame.mono (by decide) (by decide)⟩
      · show Steps p.tables e below (T117.setTop (mkF m 30 #[.val (.long P0), .second, .val (.int (128 : Int32))] [(.ref bx118)])) _
        exact retOut X117 hx Bd.returns rfl (Or.inr (Or.inr (Or.inr (Or.inr ⟨rfl, rfl, rfl⟩)))) (hb hby d6_30) hr
      · show Q6 Z P0 U0 h0 n0 _ T117.heap _
        rw [e117]
        exact ⟨bx118, rfl, N0, K_0, hex118⟩
theorem own_posL (x : Int64) : ¬ (tf1_0 x < (1 : Int64)) := by
  have one : (1 : Int64).toInt = 1 := rfl
  have m : (x &&& (9223372036854775807 : Int64)).toInt = x.toInt % 9223372036854775808 := c_maskL x 9223372036854775807 63 (by decide) (by decide)
  unfold tf1_0
  split
  · split
    · decide
    · rename_i h1 h2
      have : (x &&& (9223372036854775807 : Int64)).toInt ≠ 0 := fun q => h2 (Int64.toInt_inj.mp q)
      rw [Int64.lt_iff_toInt_lt, one]
      omega
  · rename_i h1
    exact h1
theorem own_posI (x : Int32) : ¬ (tf2_0 x < (1 : Int32)) := by
  have one : (1 : Int32).toInt = 1 := rfl
  have m : (x &&& (2147483647 : Int32)).toInt = x.toInt % 2147483648 := c_mask x 2147483647 31 (by decide) (by decide)
  unfold tf2_0
  split
  · split
    · decide
    · rename_i h1 h2
      have : (x &&& (2147483647 : Int32)).toInt ≠ 0 := fun q => h2 (Int32.toInt_inj.mp q)
      rw [Int32.lt_iff_toInt_lt, one]
      omega
  · rename_i h1
    exact h1
theorem pn_0 : plainName "com/example/kept_reads/keptreads/wire/ReadGroupEqualsPinLaw" = true := by first | (simp [plainName, overriddenIn]; done) | decide +kernel
theorem pd_0_0 : parseMethodDescriptor "(J)J" = some ⟨[.long], some .long⟩ := by decide +kernel
theorem pd_0_1 : parseMethodDescriptor "(I)I" = some ⟨[.int], some .int⟩ := by decide +kernel
theorem pd_0_2 : parseMethodDescriptor "(JI)V" = some ⟨[.long, .int], none⟩ := by decide +kernel
theorem pd_0_3 : parseMethodDescriptor "(Ljava/lang/Object;)Z" = some ⟨[(.object "java/lang/Object")], some .boolean⟩ := by decide +kernel
theorem pd_0_4 : parseMethodDescriptor "(J)Ljava/lang/Long;" = some ⟨[.long], some (.object "java/lang/Long")⟩ := by decide +kernel
theorem ef_0 (m : MethodId) (P0 : Int64) (P1 : Int32) (P2 : Int64) (P3 : Int32) (P4 : Int32) : entryFrame m #[(.long P0), (.int P1), (.long P2), (.int P3), (.int P4)] maxLocals = mkF m 0 #[.val (.long P0), .second, .val (.int P1), .val (.long P2), .second, .val (.int P3), .val (.int P4), .unset, .unset, .unset, .unset, .unset, .unset, .unset, .unset, .unset, .unset] [] := by first | (simp [entryFrame, mkF, argsToLocals, Value.category, maxLocals]; done) | rfl
def Q0 (Z : State) (P0 : Int64) (P1 : Int32) (P2 : Int64) (P3 : Int32) (P4 : Int32) (U0 : Addr) (h0 : Heap) (n0 : Nat) (v : Option Value) (h : Heap) (L : List Loc) : Prop := v = some (.int (1 : Int32)) ∧ Fr n0 L
set_option maxRecDepth 65536 in
set_option maxHeartbeats 40000000 in
theorem rm0 (l : Launch) (Z : State) (a0 : Array Value) (hw : ∀ d ∈ tables_1, d.before a0 Z = true) (ws : List Jvm.Cond) (P0 : Int64) (P1 : Int32) (P2 : Int64) (P3 : Int32) (P4 : Int32) (U0 : Addr) (h0 : Heap) (n0 : Nat) (Z0 : n0 ≤ h0.size) (pm0 : Sta Z h0 "java/lang/Long$LongCache" "cache" "[Ljava/lang/Long;" (.ref U0)) (pm1 : own_Cac Z h0 "java/lang/Long" U0) :
    MetFree l x (head1 (Jvm.Cond.code x code maxLocals ret :: ws) room_1) (fun a U => a = #[(.long P0), (.int P1), (.long P2), (.int P3), (.int P4)] ∧ Z.Warmed39 U.vm ∧ U.heap = h0) (fun _ _ _ _ _ => True) (fun _ U o U' => ∃ v L, o = .returned v ∧ Q0 Z P0 P1 P2 P3 P4 U0 h0 n0 v U'.heap L ∧ FrameEnd U o U' L 16 128) := by
  refine MetFree.of_bodySF (plainFor_of_name pn_0) hisR ?_
  intro p e s m args below meth c s₁ Bd hml0 hP hK
  obtain ⟨rfl, hZ, hh⟩ := hP
  have hx := Bd.exec
  have hby := Bd.bytes
  have hml : c.maxLocals = 17 := hml0
  have hown : s.vm.findClass "com/example/kept_reads/keptreads/wire/ReadGroupEqualsPinLaw" = some m.cls := findClass_of_methodNamed Bd.named
  have hnm := (name_of_methodNamed Bd.named Bd.method).1
  have X0 : Stand p l e room_1 s m #[(.long P0), (.int P1), (.long P2), (.int P3), (.int P4)] below meth c s₁ [] 0 0 := Stand.of_body Bd
  have e0 : s₁.heap = h0 := by rw [← hh, Bd.state]; rfl
  have N0 := Fr.nil n0
  have pre0 : ∀ t, Steps p.tables e below (s₁.setTop (mkF m 0 #[.val (.long P0), .second, .val (.int P1), .val (.long P2), .second, .val (.int P3), .val (.int P4), .unset, .unset, .unset, .unset, .unset, .unset, .unset, .unset, .unset, .unset] [])) t → Steps p.tables e below (s₁.setTop (entryFrame m #[(.long P0), (.int P1), (.long P2), (.int P3), (.int P4)] maxLocals)) t := fun t k => castTop (ef_0 m P0 P1 P2 P3 P4) k
  obtain ⟨_, _, ⟨T101, L101, k101, n101⟩, -, X101, ⟨Lc101, hQ101, l101, y101, z101⟩, st101⟩ := Jvm.LawKit.callS X0 hx (y := (⟨"com/example/kept_reads/keptreads/wire/ReadGroupEqualsPinLaw", "posL", "(J)J"⟩ : MethodName)) hown (mvT hZ (hw _ (List.mem_of_getElem? (i := 0) rfl))) (mvT hZ (hw _ (List.mem_of_getElem? (i := 1) rfl))) (mvT hZ (hw _ (List.mem_of_getElem? (i := 2) rfl))) (mvT hZ (hw _ (List.mem_of_getElem? (i := 3) rfl))) (by decide) (backOf (W := 0) (rm1 l Z a0 hw [] P0 h0 n0 Z0 ) hZ (hw _ (List.mem_of_getElem? (i := 3) rfl)) (hw _ (List.mem_of_getElem? (i := 2) rfl)) (by decide) (by decide)) (g := (mkF m 1 #[.val (.long P0), .second, .val (.int P1), .val (.long P2), .second, .val (.int P3), .val (.int P4), .unset, .unset, .unset, .unset, .unset, .unset, .unset, .unset, .unset, .unset] [(.long P0)])) rfl (by rw [hml]; rfl) (argsL := [(.long P0)]) (rest := []) (lenOf pd_0_0 rfl) rfl (by show 2 * 0 + _ ≤ _; exact Nat.le_of_eq rfl) (hb hby at_1) (fun _ _ => ⟨rfl, e0, (by decide : 0 + 0 ≤ _), (by decide : 0 + 0 ≤ _)⟩)
  dsimp only [Pt.U, Pt.locs, Pt.cells, Pt.slots] at X101 l101 y101 z101 st101 hQ101
  subst l101 y101 z101
  obtain ⟨rfl, N101q, K101⟩ := hQ101
  have N101 := Fr.app N0 N101q
  obtain ⟨_, _, ⟨T102, L102, k102, n102⟩, -, X102, ⟨Lc102, hQ102, l102, y102, z102⟩, st102⟩ := Jvm.LawKit.callS X101 hx (y := (⟨"com/example/kept_reads/keptreads/wire/ReadGroupEqualsPinLaw", "posI", "(I)I"⟩ : MethodName)) hown (mvT hZ (hw _ (List.mem_of_getElem? (i := 4) rfl))) (mvT hZ (hw _ (List.mem_of_getElem? (i := 5) rfl))) (mvT hZ (hw _ (List.mem_of_getElem? (i := 2) rfl))) (mvT hZ (hw _ (List.mem_of_getElem? (i := 6) rfl))) (by decide) (backOf (W := 0) (rm2 l Z a0 hw [] P1 h0 n0 Z0 ) hZ (hw _ (List.mem_of_getElem? (i := 6) rfl)) (hw _ (List.mem_of_getElem? (i := 2) rfl)) (by decide) (by decide)) (g := (mkF m 7 #[.val (.long P0), .second, .val (.int P1), .val (.long P2), .second, .val (.int P3), .val (.int P4), .val (.long (tf1_0 P0)), .second, .unset, .unset, .unset, .unset, .unset, .unset, .unset, .unset] [(.int P1)])) rfl (by rw [hml]; rfl) (argsL := [(.int P1)]) (rest := []) (lenOf pd_0_1 rfl) rfl (by show 2 * 0 + _ ≤ _; exact Nat.le_of_eq rfl) (hb hby at_7) (fun _ _ => ⟨rfl, K101, (by decide : 0 + 0 ≤ _), (by decide : 0 + 0 ≤ _)⟩)
  dsimp only [Pt.U, Pt.locs, Pt.cells, Pt.slots] at X102 l102 y102 z102 st102 hQ102
  subst l102 y102 z102
  obtain ⟨rfl, N102q, K102⟩ := hQ102
  have N102 := Fr.app N101 N102q
  have pre103 : ∀ t, Steps p.tables e below (T102.setTop (mkF m 16 #[.val (.long P0), .second, .val (.int P1), .val (.long P2), .second, .val (.int P3), .val (.int P4), .val (.long (tf1_0 P0)), .second, .val (.int (tf2_0 P1)), .unset, .unset, .unset, .unset, .unset, .unset, .unset] [(.int (P4 &&& (1 : Int32)))])) t → Steps p.tables e below (s₁.setTop (entryFrame m #[(.long P0), (.int P1), (.long P2), (.int P3), (.int P4)] maxLocals)) t := fun t kt => pre0 t (by
      show Steps p.tables e below (s₁.setTop (mkF m 0 #[.val (.long P0), .second, .val (.int P1), .val (.long P2), .second, .val (.int P3), .val (.int P4), .unset, .unset, .unset, .unset, .unset, .unset, .unset, .unset, .unset, .unset] [])) _
      refine XS.lloadN X0.here hx rfl (hb hby at_0) rfl ?_
      show Steps p.tables e below (s₁.setTop (mkF m 1 #[.val (.long P0), .second, .val (.int P1), .val (.long P2), .second, .val (.int P3), .val (.int P4), .unset, .unset, .unset, .unset, .unset, .unset, .unset, .unset, .unset, .unset] [(.long P0)])) _
      refine st101 _ ?_
      show Steps p.tables e below (T101.setTop (mkF m 4 #[.val (.long P0), .second, .val (.int P1), .val (.long P2), .second, .val (.int P3), .val (.int P4), .unset, .unset, .unset, .unset, .unset, .unset, .unset, .unset, .unset, .unset] [(.long (tf1_0 P0))])) _
      refine XS.lstore X101.here hx rfl (hb hby at_4) rfl (l' := #[.val (.long P0), .second, .val (.int P1), .val (.long P2), .second, .val (.int P3), .val (.int P4), .val (.long (tf1_0 P0)), .second, .unset, .unset, .unset, .unset, .unset, .unset, .unset, .unset]) rfl ?_
      show Steps p.tables e below (T101.setTop (mkF m 6 #[.val (.long P0), .second, .val (.int P1), .val (.long P2), .second, .val (.int P3), .val (.int P4), .val (.long (tf1_0 P0)), .second, .unset, .unset, .unset, .unset, .unset, .unset, .unset, .unset] [])) _
      refine XS.iloadN X101.here hx rfl (hb hby at_6) rfl ?_
      show Steps p.tables e below (T101.setTop (mkF m 7 #[.val (.long P0), .second, .val (.int P1), .val (.long P2), .second, .val (.int P3), .val (.int P4), .val (.long (tf1_0 P0)), .second, .unset, .unset, .unset, .unset, .unset, .unset, .unset, .unset] [(.int P1)])) _
      refine st102 _ ?_
      show Steps p.tables e below (T102.setTop (mkF m 10 #[.val (.long P0), .second, .val (.int P1), .val (.long P2), .second, .val (.int P3), .val (.int P4), .val (.long (tf1_0 P0)), .second, .unset, .unset, .unset, .unset, .unset, .unset, .unset, .unset] [(.int (tf2_0 P1))])) _
      refine XS.istore X102.here hx rfl (hb hby at_10) rfl (l' := #[.val (.long P0), .second, .val (.int P1), .val (.long P2), .second, .val (.int P3), .val (.int P4), .val (.long (tf1_0 P0)), .second, .val (.int (tf2_0 P1)), .unset, .unset, .unset, .unset, .unset, .unset, .unset]) rfl ?_
      show Steps p.tables e below (T102.setTop (mkF m 12 #[.val (.long P0), .second, .val (.int P1), .val (.long P2), .second, .val (.int P3), .val (.int P4), .val (.long (tf1_0 P0)), .second, .val (.int (tf2_0 P1)), .unset, .unset, .unset, .unset, .unset, .unset, .unset] [])) _
      refine XS.iload X102.here hx rfl (hb hby at_12) rfl ?_
      show Steps p.tables e below (T102.setTop (mkF m 14 #[.val (.long P0), .second, .val (.int P1), .val (.long P2), .second, .val (.int P3), .val (.int P4), .val (.long (tf1_0 P0)), .second, .val (.int (tf2_0 P1)), .unset, .unset, .unset, .unset, .unset, .unset, .unset] [(.int P4)])) _
      refine XS.iconst X102.here hx rfl (hb hby at_14) ?_
      show Steps p.tables e below (T102.setTop (mkF m 15 #[.val (.long P0), .second, .val (.int P1), .val (.long P2), .second, .val (.int P3), .val (.int P4), .val (.long (tf1_0 P0)), .second, .val (.int (tf2_0 P1)), .unset, .unset, .unset, .unset, .unset, .unset, .unset] [(.int (1 : Int32)), (.int P4)])) _
      refine XS.iand X102.here hx rfl (hb hby at_15) rfl ?_
      exact kt)
  by_cases hc16 : (P4 &&& (1 : Int32)) = (0 : Int32)
  · obtain ⟨_, _, ⟨T104, L104, k104, n104⟩, -, X104, ⟨Lc104, hQ104, l104, y104, z104⟩, st104⟩ := Jvm.LawKit.callS X102 hx (y := (⟨"com/example/kept_reads/keptreads/wire/ReadGroupEqualsPinLaw", "posL", "(J)J"⟩ : MethodName)) hown (mvT hZ (hw _ (List.mem_of_getElem? (i := 0) rfl))) (mvT hZ (hw _ (List.mem_of_getElem? (i := 1) rfl))) (mvT hZ (hw _ (List.mem_of_getElem? (i := 2) rfl))) (mvT hZ (hw _ (List.mem_of_getElem? (i := 3) rfl))) (by decide) (backOf (W := 0) (rm1 l Z a0 hw [] P2 h0 n0 Z0 ) hZ (hw _ (List.mem_of_getElem? (i := 3) rfl)) (hw _ (List.mem_of_getElem? (i := 2) rfl)) (by decide) (by decide)) (g := (mkF m 25 #[.val (.long P0), .second, .val (.int P1), .val (.long P2), .second, .val (.int P3), .val (.int P4), .val (.long (tf1_0 P0)), .second, .val (.int (tf2_0 P1)), .unset, .unset, .unset, .unset, .unset, .unset, .unset] [(.long P2)])) rfl (by rw [hml]; rfl) (argsL := [(.long P2)]) (rest := []) (lenOf pd_0_0 rfl) rfl (by show 2 * 0 + _ ≤ _; exact Nat.le_of_eq rfl) (hb hby at_25) (fun _ _ => ⟨rfl, K102, (by decide : 0 + 0 ≤ _), (by decide : 0 + 0 ≤ _)⟩)
    dsimp only [Pt.U, Pt.locs, Pt.cells, Pt.slots] at X104 l104 y104 z104 st104 hQ104
    subst l104 y104 z104
    obtain ⟨rfl, N104q, K104⟩ := hQ104
    have N104 := Fr.app N102 N104q
    have pre105 : ∀ t, Steps p.tables e below (T104.setTop (mkF m 34 #[.val (.long P0), .second, .val (.int P1), .val (.long P2), .second, .val (.int P3), .val (.int P4), .val (.long (tf1_0 P0)), .second, .val (.int (tf2_0 P1)), .val (.long (tf1_0 P2)), .second, .unset, .unset, .unset, .unset, .unset] [(.int (P4 &&& (2 : Int32)))])) t → Steps p.tables e below (s₁.setTop (entryFrame m #[(.long P0), (.int P1), (.long P2), (.int P3), (.int P4)] maxLocals)) t := fun t kt => pre103 t (by
        show Steps p.tables e below (T102.setTop (mkF m 16 #[.val (.long P0), .second, .val (.int P1), .val (.long P2), .second, .val (.int P3), .val (.int P4), .val (.long (tf1_0 P0)), .second, .val (.int (tf2_0 P1)), .unset, .unset, .unset, .unset, .unset, .unset, .unset] [(.int (P4 &&& (1 : Int32)))])) _
        refine XS.ifYes X102.here hx rfl (pc0 := 16) (pc' := 24) rfl (hb hby at_16) rfl ((if0 _ _).trans (teq hc16).1) (by decide) (by decide) ?_
        show Steps p.tables e below (T102.setTop (mkF m 24 #[.val (.long P0), .second, .val (.int P1), .val (.long P2), .second, .val (.int P3), .val (.int P4), .val (.long (tf1_0 P0)), .second, .val (.int (tf2_0 P1)), .unset, .unset, .unset, .unset, .unset, .unset, .unset] [])) _
        refine XS.lloadN X102.here hx rfl (hb hby at_24) rfl ?_
        show Steps p.tables e below (T102.setTop (mkF m 25 #[.val (.long P0), .second, .val (.int P1), .val (.long P2), .second, .val (.int P3), .val (.int P4), .val (.long (tf1_0 P0)), .second, .val (.int (tf2_0 P1)), .unset, .unset, .unset, .unset, .unset, .unset, .unset] [(.long P2)])) _
        refine st104 _ ?_
        show Steps p.tables e below (T104.setTop (mkF m 28 #[.val (.long P0), .second, .val (.int P1), .val (.long P2), .second, .val (.int P3), .val (.int P4), .val (.long (tf1_0 P0)), .second, .val (.int (tf2_0 P1)), .unset, .unset, .unset, .unset, .unset, .unset, .unset] [(.long (tf1_0 P2))])) _
        refine XS.lstore X104.here hx rfl (hb hby at_28) rfl (l' := #[.val (.long P0), .second, .val (.int P1), .val (.long P2), .second, .val (.int P3), .val (.int P4), .val (.long (tf1_0 P0)), .second, .val (.int (tf2_0 P1)), .val (.long (tf1_0 P2)), .second, .unset, .unset, .unset, .unset, .unset]) rfl ?_
        show Steps p.tables e below (T104.setTop (mkF m 30 #[.val (.long P0), .second, .val (.int P1), .val (.long P2), .second, .val (.int P3), .val (.int P4), .val (.long (tf1_0 P0)), .second, .val (.int (tf2_0 P1)), .val (.long (tf1_0 P2)), .second, .unset, .unset, .unset, .unset, .unset] [])) _
        refine XS.iload X104.here hx rfl (hb hby at_30) rfl ?_
        show Steps p.tables e below (T104.setTop (mkF m 32 #[.val (.long P0), .second, .val (.int P1), .val (.long P2), .second, .val (.int P3), .val (.int P4), .val (.long (tf1_0 P0)), .second, .val (.int (tf2_0 P1)), .val (.long (tf1_0 P2)), .second, .unset, .unset, .unset, .unset, .unset] [(.int P4)])) _
        refine XS.iconst X104.here hx rfl (hb hby at_32) ?_
        show Steps p.tables e below (T104.setTop (mkF m 33 #[.val (.long P0), .second, .val (.int P1), .val (.long P2), .second, .val (.int P3), .val (.int P4), .val (.long (tf1_0 P0)), .second, .val (.int (tf2_0 P1)), .val (.long (tf1_0 P2)), .second, .unset, .unset, .unset, .unset, .unset] [(.int (2 : Int32)), (.int P4)])) _
        refine XS.iand X104.here hx rfl (hb hby at_33) rfl ?_
        exact kt)
    by_cases hc34 : (P4 &&& (2 : Int32)) = (0 : Int32)
    · obtain ⟨_, _, ⟨T106, L106, k106, n106⟩, -, X106, ⟨Lc106, hQ106, l106, y106, z106⟩, st106⟩ := Jvm.LawKit.callS X104 hx (y := (⟨"com/example/kept_reads/keptreads/wire/ReadGroupEqualsPinLaw", "posI", "(I)I"⟩ : MethodName)) hown (mvT hZ (hw _ (List.mem_of_getElem? (i := 4) rfl))) (mvT hZ (hw _ (List.mem_of_getElem? (i := 5) rfl))) (mvT hZ (hw _ (List.mem_of_getElem? (i := 2) rfl))) (mvT hZ (hw _ (List.mem_of_getElem? (i := 6) rfl))) (by decide) (backOf (W := 0) (rm2 l Z a0 hw [] P3 h0 n0 Z0 ) hZ (hw _ (List.mem_of_getElem? (i := 6) rfl)) (hw _ (List.mem_of_getElem? (i := 2) rfl)) (by decide) (by decide)) (g := (mkF m 44 #[.val (.long P0), .second, .val (.int P1), .val (.long P2), .second, .val (.int P3), .val (.int P4), .val (.long (tf1_0 P0)), .second, .val (.int (tf2_0 P1)), .val (.long (tf1_0 P2)), .second, .unset, .unset, .unset, .unset, .unset] [(.int P3)])) rfl (by rw [hml]; rfl) (argsL := [(.int P3)]) (rest := []) (lenOf pd_0_1 rfl) rfl (by show 2 * 0 + _ ≤ _; exact Nat.le_of_eq rfl) (hb hby at_44) (fun _ _ => ⟨rfl, K104, (by decide : 0 + 0 ≤ _), (by decide : 0 + 0 ≤ _)⟩)
      dsimp only [Pt.U, Pt.locs, Pt.cells, Pt.slots] at X106 l106 y106 z106 st106 hQ106
      subst l106 y106 z106
      obtain ⟨rfl, N106q, K106⟩ := hQ106
      have N106 := Fr.app N104 N106q
      obtain ⟨T107, h107, X107, e107, E107, A107, D107, -, st107⟩ := newO X106 hx hZ hown (hw _ (List.mem_of_getElem? (i := 8) rfl)) (hw _ (List.mem_of_getElem? (i := 9) rfl)) (hw _ (List.mem_of_getElem? (i := 10) rfl)) K106 (g := (mkF m 49 #[.val (.long P0), .second, .val (.int P1), .val (.long P2), .second, .val (.int P3), .val (.int P4), .val (.long (tf1_0 P0)), .second, .val (.int (tf2_0 P1)), .val (.long (tf1_0 P2)), .second, .val (.int (tf2_0 P3)), .unset, .unset, .unset, .unset] [])) rfl (hb hby at_49) (by decide) (by decide)
      obtain ⟨b107, q107⟩ : ∃ z, z = h0.size := ⟨_, rfl⟩
      rw [← q107] at A107 D107 st107
      have ne108 : U0 ≠ b107 := Nat.ne_of_lt (Nat.lt_of_lt_of_le pm1.lt (Nat.le_of_eq q107.symm))
      have g_b107 : n0 ≤ b107 := Nat.le_trans Z0 (Nat.le_of_eq q107.symm)
      have Z109 : n0 ≤ h107.size := Nat.le_trans Z0 E107.1
      have F107_18 : Fld Z h107 b107 "com/example/kept_reads/keptreads/wire/ReadGroup" "transaction" "J" (.long (0 : Int64)) := D107 (Or.inr (hw _ (List.mem_of_getElem? (i := 18) rfl))) (ty := .long) (by decide)
      have F107_20 : Fld Z h107 b107 "com/example/kept_reads/keptreads/wire/ReadGroup" "call" "I" (.int (0 : Int32)) := D107 (Or.inr (hw _ (List.mem_of_getElem? (i := 20) rfl))) (ty := .int) (by decide)
      have c110 : Sta Z h107 "java/lang/Long$LongCache" "cache" "[Ljava/lang/Long;" (.ref U0) := (pm0.ext E107)
      obtain ⟨_, _, ⟨T111, L111, k111, n111⟩, -, X111, ⟨Lc111, hQ111, l111, y111, z111⟩, st111⟩ := X107.specialBack hx (y := (⟨"com/example/kept_reads/keptreads/wire/ReadGroup", "<init>", "(JI)V"⟩ : MethodName)) rfl hown (mvT hZ (hw _ (List.mem_of_getElem? (i := 11) rfl))) (mvT hZ (hw _ (List.mem_of_getElem? (i := 12) rfl))) (mvT hZ (hw _ (List.mem_of_getElem? (i := 13) rfl))) (by decide) (backOf (W := 1) (rm3 l Z a0 hw [] b107 (tf1_0 P0) (tf2_0 P1) (0 : Int64) (0 : Int32) h107 n0 Z109 F107_18 F107_20 A107 (show ¬ ((tf1_0 P0) < (1 : Int64)) from (own_posL _)) (show ¬ ((tf2_0 P1) < (1 : Int32)) from (own_posI _)) g_b107) hZ (hw _ (List.mem_of_getElem? (i := 13) rfl)) (hw _ (List.mem_of_getElem? (i := 10) rfl)) (by decide) (by decide)) (g := (mkF m 57 #[.val (.long P0), .second, .val (.int P1), .val (.long P2), .second, .val (.int P3), .val (.int P4), .val (.long (tf1_0 P0)), .second, .val (.int (tf2_0 P1)), .val (.long (tf1_0 P2)), .second, .val (.int (tf2_0 P3)), .unset, .unset, .unset, .unset] [(.int (tf2_0 P1)), (.long (tf1_0 P0)), (.ref b107), (.ref b107)])) rfl (by rw [hml]; rfl) (Steps.refl _) (a := b107) (argsL := [(.long (tf1_0 P0)), (.int (tf2_0 P1))]) (rest := [(.ref b107)]) (lenOf pd_0_2 rfl) rfl (by show 2 * 0 + _ ≤ _; exact Nat.le_of_eq rfl) (hb hby at_57) (fun _ _ => ⟨rfl, e107, (by decide : 1 + 0 ≤ _), (by decide : 2 + 0 ≤ _)⟩)
      dsimp only [Pt.U, Pt.locs, Pt.cells, Pt.slots] at X111 l111 y111 z111 st111 hQ111
      subst l111 y111 z111
      obtain ⟨rfl, N111q, K111, p111_0, p111_1, p111_2⟩ := hQ111
      have N111 := Fr.app N106 N111q
      have Z112 : n0 ≤ T111.heap.size := Nat.le_trans Z109 K111.1
      have ss111_0 : Sta Z T111.heap "java/lang/Long$LongCache" "cache" "[Ljava/lang/Long;" (.ref U0) := own_sta_keep c110 K111 (allS (own_ns A107) all0)
      obtain ⟨T113, h113, X113, e113, E113, A113, D113, -, st113⟩ := newO X111 hx hZ hown (hw _ (List.mem_of_getElem? (i := 8) rfl)) (hw _ (List.mem_of_getElem? (i := 9) rfl)) (hw _ (List.mem_of_getElem? (i := 10) rfl)) rfl (g := (mkF m 62 #[.val (.long P0), .second, .val (.int P1), .val (.long P2), .second, .val (.int P3), .val (.int P4), .val (.long (tf1_0 P0)), .second, .val (.int (tf2_0 P1)), .val (.long (tf1_0 P2)), .second, .val (.int (tf2_0 P3)), .val (.ref b107), .unset, .unset, .unset] [])) rfl (hb hby at_62) (by decide) (by decide)
      obtain ⟨b113, q113⟩ : ∃ z, z = T111.heap.size := ⟨_, rfl⟩
      rw [← q113] at A113 D113 st113
      have c115 : own_Cac Z T111.heap "java/lang/Long" U0 := ((pm1.ext E107).keep K111 (ninS ne108 nin0))
      have ne114 : U0 ≠ b113 := Nat.ne_of_lt (Nat.lt_of_lt_of_le c115.lt (Nat.le_of_eq q113.symm))
      have ne116 : b107 ≠ b113 := Nat.ne_of_lt (Nat.lt_of_lt_of_le p111_0.lt (Nat.le_of_eq q113.symm))
      have g_b113 : n0 ≤ b113 := Nat.le_trans Z112 (Nat.le_of_eq q113.symm)
      have Z117 : n0 ≤ h113.size := Nat.le_trans Z112 E113.1
      have F113_18 : Fld Z h113 b113 "com/example/kept_reads/keptreads/wire/ReadGroup" "transaction" "J" (.long (0 : Int64)) := D113 (Or.inr (hw _ (List.mem_of_getElem? (i := 18) rfl))) (ty := .long) (by decide)
      have F113_20 : Fld Z h113 b113 "com/example/kept_reads/keptreads/wire/ReadGroup" "call" "I" (.int (0 : Int32)) := D113 (Or.inr (hw _ (List.mem_of_getElem? (i := 20) rfl))) (ty := .int) (by decide)
      have c118 : Sta Z h113 "java/lang/Long$LongCache" "cache" "[Ljava/lang/Long;" (.ref U0) := (ss111_0.ext E113)
      obtain ⟨_, _, ⟨T119, L119, k119, n119⟩, -, X119, ⟨Lc119, hQ119, l119, y119, z119⟩, st119⟩ := X113.specialBack hx (y := (⟨"com/example/kept_reads/keptreads/wire/ReadGroup", "<init>", "(JI)V"⟩ : MethodName)) rfl hown (mvT hZ (hw _ (List.mem_of_getElem? (i := 11) rfl))) (mvT hZ (hw _ (List.mem_of_getElem? (i := 12) rfl))) (mvT hZ (hw _ (List.mem_of_getElem? (i := 13) rfl))) (by decide) (backOf (W := 1) (rm3 l Z a0 hw [] b113 (tf1_0 P2) (tf2_0 P3) (0 : Int64) (0 : Int32) h113 n0 Z117 F113_18 F113_20 A113 (show ¬ ((tf1_0 P2) < (1 : Int64)) from (own_posL _)) (show ¬ ((tf2_0 P3) < (1 : Int32)) from (own_posI _)) g_b113) hZ (hw _ (List.mem_of_getElem? (i := 13) rfl)) (hw _ (List.mem_of_getElem? (i := 10) rfl)) (by decide) (by decide)) (g := (mkF m 70 #[.val (.long P0), .second, .val (.int P1), .val (.long P2), .second, .val (.int P3), .val (.int P4), .val (.long (tf1_0 P0)), .second, .val (.int (tf2_0 P1)), .val (.long (tf1_0 P2)), .second, .val (.int (tf2_0 P3)), .val (.ref b107), .unset, .unset, .unset] [(.int (tf2_0 P3)), (.long (tf1_0 P2)), (.ref b113), (.ref b113)])) rfl (by rw [hml]; rfl) (Steps.refl _) (a := b113) (argsL := [(.long (tf1_0 P2)), (.int (tf2_0 P3))]) (rest := [(.ref b113)]) (lenOf pd_0_2 rfl) rfl (by show 2 * 0 + _ ≤ _; exact Nat.le_of_eq rfl) (hb hby at_70) (fun _ _ => ⟨rfl, e113, (by decide : 2 + 0 ≤ _), (by decide : 4 + 0 ≤ _)⟩)
      dsimp only [Pt.U, Pt.locs, Pt.cells, Pt.slots] at X119 l119 y119 z119 st119 hQ119
      subst l119 y119 z119
      obtain ⟨rfl, N119q, K119, p119_0, p119_1, p119_2⟩ := hQ119
      have N119 := Fr.app N111 N119q
      have Z120 : n0 ≤ T119.heap.size := Nat.le_trans Z117 K119.1
      have ss119_0 : Sta Z T119.heap "java/lang/Long$LongCache" "cache" "[Ljava/lang/Long;" (.ref U0) := own_sta_keep c118 K119 (allS (own_ns A113) all0)
      have pre121 : ∀ t, Steps p.tables e below (T119.setTop (mkF m 86 #[.val (.long P0), .second, .val (.int P1), .val (.long P2), .second, .val (.int P3), .val (.int P4), .val (.long (tf1_0 P0)), .second, .val (.int (tf2_0 P1)), .val (.long (tf1_0 P2)), .second, .val (.int (tf2_0 P3)), .val (.ref b107), .val (.ref b113), .val (.int (((P4.toUInt32 >>> ((2 : Int32) &&& 31).toUInt32).toInt32) &&& (3 : Int32))), .unset] [(.int (1 : Int32)), (.int (((P4.toUInt32 >>> ((2 : Int32) &&& 31).toUInt32).toInt32) &&& (3 : Int32)))])) t → Steps p.tables e below (s₁.setTop (entryFrame m #[(.long P0), (.int P1), (.long P2), (.int P3), (.int P4)] maxLocals)) t := fun t kt => pre105 t (by
          show Steps p.tables e below (T104.setTop (mkF m 34 #[.val (.long P0), .second, .val (.int P1), .val (.long P2), .second, .val (.int P3), .val (.int P4), .val (.long (tf1_0 P0)), .second, .val (.int (tf2_0 P1)), .val (.long (tf1_0 P2)), .second, .unset, .unset, .unset, .unset, .unset] [(.int (P4 &&& (2 : Int32)))])) _
          refine XS.ifYes X104.here hx rfl (pc0 := 34) (pc' := 42) rfl (hb hby at_34) rfl ((if0 _ _).trans (teq hc34).1) (by decide) (by decide) ?_
          show Steps p.tables e below (T104.setTop (mkF m 42 #[.val (.long P0), .second, .val (.int P1), .val (.long P2), .second, .val (.int P3), .val (.int P4), .val (.long (tf1_0 P0)), .second, .val (.int (tf2_0 P1)), .val (.long (tf1_0 P2)), .second, .unset, .unset, .unset, .unset, .unset] [])) _
          refine XS.iload X104.here hx rfl (hb hby at_42) rfl ?_
          show Steps p.tables e below (T104.setTop (mkF m 44 #[.val (.long P0), .second, .val (.int P1), .val (.long P2), .second, .val (.int P3), .val (.int P4), .val (.long (tf1_0 P0)), .second, .val (.int (tf2_0 P1)), .val (.long (tf1_0 P2)), .second, .unset, .unset, .unset, .unset, .unset] [(.int P3)])) _
          refine st106 _ ?_
          show Steps p.tables e below (T106.setTop (mkF m 47 #[.val (.long P0), .second, .val (.int P1), .val (.long P2), .second, .val (.int P3), .val (.int P4), .val (.long (tf1_0 P0)), .second, .val (.int (tf2_0 P1)), .val (.long (tf1_0 P2)), .second, .unset, .unset, .unset, .unset, .unset] [(.int (tf2_0 P3))])) _
          refine XS.istore X106.here hx rfl (hb hby at_47) rfl (l' := #[.val (.long P0), .second, .val (.int P1), .val (.long P2), .second, .val (.int P3), .val (.int P4), .val (.long (tf1_0 P0)), .second, .val (.int (tf2_0 P1)), .val (.long (tf1_0 P2)), .second, .val (.int (tf2_0 P3)), .unset, .unset, .unset, .unset]) rfl ?_
          show Steps p.tables e below (T106.setTop (mkF m 49 #[.val (.long P0), .second, .val (.int P1), .val (.long P2), .second, .val (.int P3), .val (.int P4), .val (.long (tf1_0 P0)), .second, .val (.int (tf2_0 P1)), .val (.long (tf1_0 P2)), .second, .val (.int (tf2_0 P3)), .unset, .unset, .unset, .unset] [])) _
          refine st107 _ ?_
          show Steps p.tables e below (T107.setTop (mkF m 52 #[.val (.long P0), .second, .val (.int P1), .val (.long P2), .second, .val (.int P3), .val (.int P4), .val (.long (tf1_0 P0)), .second, .val (.int (tf2_0 P1)), .val (.long (tf1_0 P2)), .second, .val (.int (tf2_0 P3)), .unset, .unset, .unset, .unset] [(.ref b107)])) _
          refine XS.dup X107.here hx rfl (hb hby at_52) rfl rfl ?_
          show Steps p.tables e below (T107.setTop (mkF m 53 #[.val (.long P0), .second, .val (.int P1), .val (.long P2), .second, .val (.int P3), .val (.int P4), .val (.long (tf1_0 P0)), .second, .val (.int (tf2_0 P1)), .val (.long (tf1_0 P2)), .second, .val (.int (tf2_0 P3)), .unset, .unset, .unset, .unset] [(.ref b107), (.ref b107)])) _
          refine XS.lload X107.here hx rfl (hb hby at_53) rfl ?_
          show Steps p.tables e below (T107.setTop (mkF m 55 #[.val (.long P0), .second, .val (.int P1), .val (.long P2), .second, .val (.int P3), .val (.int P4), .val (.long (tf1_0 P0)), .second, .val (.int (tf2_0 P1)), .val (.long (tf1_0 P2)), .second, .val (.int (tf2_0 P3)), .unset, .unset, .unset, .unset] [(.long (tf1_0 P0)), (.ref b107), (.ref b107)])) _
          refine XS.iload X107.here hx rfl (hb hby at_55) rfl ?_
          show Steps p.tables e below (T107.setTop (mkF m 57 #[.val (.long P0), .second, .val (.int P1), .val (.long P2), .second, .val (.int P3), .val (.int P4), .val (.long (tf1_0 P0)), .second, .val (.int (tf2_0 P1)), .val (.long (tf1_0 P2)), .second, .val (.int (tf2_0 P3)), .unset, .unset, .unset, .unset] [(.int (tf2_0 P1)), (.long (tf1_0 P0)), (.ref b107), (.ref b107)])) _
          refine st111.trans ?_
          show Steps p.tables e below (T111.setTop (mkF m 60 #[.val (.long P0), .second, .val (.int P1), .val (.long P2), .second, .val (.int P3), .val (.int P4), .val (.long (tf1_0 P0)), .second, .val (.int (tf2_0 P1)), .val (.long (tf1_0 P2)), .second, .val (.int (tf2_0 P3)), .unset, .unset, .unset, .unset] [(.ref b107)])) _
          refine XS.astore X111.here hx rfl (hb hby at_60) rfl rfl (l' := #[.val (.long P0), .second, .val (.int P1), .val (.long P2), .second, .val (.int P3), .val (.int P4), .val (.long (tf1_0 P0)), .second, .val (.int (tf2_0 P1)), .val (.long (tf1_0 P2)), .second, .val (.int (tf2_0 P3)), .val (.ref b107), .unset, .unset, .unset]) rfl ?_
          show Steps p.tables e below (T111.setTop (mkF m 62 #[.val (.long P0), .second, .val (.int P1), .val (.long P2), .second, .val (.int P3), .val (.int P4), .val (.long (tf1_0 P0)), .second, .val (.int (tf2_0 P1)), .val (.long (tf1_0 P2)), .second, .val (.int (tf2_0 P3)), .val (.ref b107), .unset, .unset, .unset] [])) _
          refine st113 _ ?_
          show Steps p.tables e below (T113.setTop (mkF m 65 #[.val (.long P0), .second, .val (.int P1), .val (.long P2), .second, .val (.int P3), .val (.int P4), .val (.long (tf1_0 P0)), .second, .val (.int (tf2_0 P1)), .val (.long (tf1_0 P2)), .second, .val (.int (tf2_0 P3)), .val (.ref b107), .unset, .unset, .unset] [(.ref b113)])) _
          refine XS.dup X113.here hx rfl (hb hby at_65) rfl rfl ?_
          show Steps p.tables e below (T113.setTop (mkF m 66 #[.val (.long P0), .second, .val (.int P1), .val (.long P2), .second, .val (.int P3), .val (.int P4), .val (.long (tf1_0 P0)), .second, .val (.int (tf2_0 P1)), .val (.long (tf1_0 P2)), .second, .val (.int (tf2_0 P3)), .val (.ref b107), .unset, .unset, .unset] [(.ref b113), (.ref b113)])) _
          refine XS.lload X113.here hx rfl (hb hby at_66) rfl ?_
          show Steps p.tables e below (T113.setTop (mkF m 68 #[.val (.long P0), .second, .val (.int P1), .val (.long P2), .second, .val (.int P3), .val (.int P4), .val (.long (tf1_0 P0)), .second, .val (.int (tf2_0 P1)), .val (.long (tf1_0 P2)), .second, .val (.int (tf2_0 P3)), .val (.ref b107), .unset, .unset, .unset] [(.long (tf1_0 P2)), (.ref b113), (.ref b113)])) _
          refine XS.iload X113.here hx rfl (hb hby at_68) rfl ?_
          show Steps p.tables e below (T113.setTop (mkF m 70 #[.val (.long P0), .second, .val (.int P1), .val (.long P2), .second, .val (.int P3), .val (.int P4), .val (.long (tf1_0 P0)), .second, .val (.int (tf2_0 P1)), .val (.long (tf1_0 P2)), .second, .val (.int (tf2_0 P3)), .val (.ref b107), .unset, .unset, .unset] [(.int (tf2_0 P3)), (.long (tf1_0 P2)), (.ref b113), (.ref b113)])) _
          refine st119.trans ?_
          show Steps p.tables e below (T119.setTop (mkF m 73 #[.val (.long P0), .second, .val (.int P1), .val (.long P2), .second, .val (.int P3), .val (.int P4), .val (.long (tf1_0 P0)), .second, .val (.int (tf2_0 P1)), .val (.long (tf1_0 P2)), .second, .val (.int (tf2_0 P3)), .val (.ref b107), .unset, .unset, .unset] [(.ref b113)])) _
          refine XS.astore X119.here hx rfl (hb hby at_73) rfl rfl (l' := #[.val (.long P0), .second, .val (.int P1), .val (.long P2), .second, .val (.int P3), .val (.int P4), .val (.long (tf1_0 P0)), .second, .val (.int (tf2_0 P1)), .val (.long (tf1_0 P2)), .second, .val (.int (tf2_0 P3)), .val (.ref b107), .val (.ref b113), .unset, .unset]) rfl ?_
          show Steps p.tables e below (T119.setTop (mkF m 75 #[.val (.long P0), .second, .val (.int P1), .val (.long P2), .second, .val (.int P3), .val (.int P4), .val (.long (tf1_0 P0)), .second, .val (.int (tf2_0 P1)), .val (.long (tf1_0 P2)), .second, .val (.int (tf2_0 P3)), .val (.ref b107), .val (.ref b113), .unset, .unset] [])) _
          refine XS.iload X119.here hx rfl (hb hby at_75) rfl ?_
          show Steps p.tables e below (T119.setTop (mkF m 77 #[.val (.long P0), .second, .val (.int P1), .val (.long P2), .second, .val (.int P3), .val (.int P4), .val (.long (tf1_0 P0)), .second, .val (.int (tf2_0 P1)), .val (.long (tf1_0 P2)), .second, .val (.int (tf2_0 P3)), .val (.ref b107), .val (.ref b113), .unset, .unset] [(.int P4)])) _
          refine XS.iconst X119.here hx rfl (hb hby at_77) ?_
          show Steps p.tables e below (T119.setTop (mkF m 78 #[.val (.long P0), .second, .val (.int P1), .val (.long P2), .second, .val (.int P3), .val (.int P4), .val (.long (tf1_0 P0)), .second, .val (.int (tf2_0 P1)), .val (.long (tf1_0 P2)), .second, .val (.int (tf2_0 P3)), .val (.ref b107), .val (.ref b113), .unset, .unset] [(.int (2 : Int32)), (.int P4)])) _
          refine XS.iushr X119.here hx rfl (hb hby at_78) rfl ?_
          show Steps p.tables e below (T119.setTop (mkF m 79 #[.val (.long P0), .second, .val (.int P1), .val (.long P2), .second, .val (.int P3), .val (.int P4), .val (.long (tf1_0 P0)), .second, .val (.int (tf2_0 P1)), .val (.long (tf1_0 P2)), .second, .val (.int (tf2_0 P3)), .val (.ref b107), .val (.ref b113), .unset, .unset] [(.int ((P4.toUInt32 >>> ((2 : Int32) &&& 31).toUInt32).toInt32))])) _
          refine XS.iconst X119.here hx rfl (hb hby at_79) ?_
          show Steps p.tables e below (T119.setTop (mkF m 80 #[.val (.long P0), .second, .val (.int P1), .val (.long P2), .second, .val (.int P3), .val (.int P4), .val (.long (tf1_0 P0)), .second, .val (.int (tf2_0 P1)), .val (.long (tf1_0 P2)), .second, .val (.int (tf2_0 P3)), .val (.ref b107), .val (.ref b113), .unset, .unset] [(.int (3 : Int32)), (.int ((P4.toUInt32 >>> ((2 : Int32) &&& 31).toUInt32).toInt32))])) _
          refine XS.iand X119.here hx rfl (hb hby at_80) rfl ?_
          show Steps p.tables e below (T119.setTop (mkF m 81 #[.val (.long P0), .second, .val (.int P1), .val (.long P2), .second, .val (.int P3), .val (.int P4), .val (.long (tf1_0 P0)), .second, .val (.int (tf2_0 P1)), .val (.long (tf1_0 P2)), .second, .val (.int (tf2_0 P3)), .val (.ref b107), .val (.ref b113), .unset, .unset] [(.int (((P4.toUInt32 >>> ((2 : Int32) &&& 31).toUInt32).toInt32) &&& (3 : Int32)))])) _
          refine XS.istore X119.here hx rfl (hb hby at_81) rfl (l' := #[.val (.long P0), .second, .val (.int P1), .val (.long P2), .second, .val (.int P3), .val (.int P4), .val (.long (tf1_0 P0)), .second, .val (.int (tf2_0 P1)), .val (.long (tf1_0 P2)), .second, .val (.int (tf2_0 P3)), .val (.ref b107), .val (.ref b113), .val (.int (((P4.toUInt32 >>> ((2 : Int32) &&& 31).toUInt32).toInt32) &&& (3 : Int32))), .unset]) rfl ?_
          show Steps p.tables e below (T119.setTop (mkF m 83 #[.val (.long P0), .second, .val (.int P1), .val (.long P2), .second, .val (.int P3), .val (.int P4), .val (.long (tf1_0 P0)), .second, .val (.int (tf2_0 P1)), .val (.long (tf1_0 P2)), .second, .val (.int (tf2_0 P3)), .val (.ref b107), .val (.ref b113), .val (.int (((P4.toUInt32 >>> ((2 : Int32) &&& 31).toUInt32).toInt32) &&& (3 : Int32))), .unset] [])) _
          refine XS.iload X119.here hx rfl (hb hby at_83) rfl ?_
          show Steps p.tables e below (T119.setTop (mkF m 85 #[.val (.long P0), .second, .val (.int P1), .val (.long P2), .second, .val (.int P3), .val (.int P4), .val (.long (tf1_0 P0)), .second, .val (.int (tf2_0 P1)), .val (.long (tf1_0 P2)), .second, .val (.int (tf2_0 P3)), .val (.ref b107), .val (.ref b113), .val (.int (((P4.toUInt32 >>> ((2 : Int32) &&& 31).toUInt32).toInt32) &&& (3 : Int32))), .unset] [(.int (((P4.toUInt32 >>> ((2 : Int32) &&& 31).toUInt32).toInt32) &&& (3 : Int32)))])) _
          refine XS.iconst X119.here hx rfl (hb hby at_85) ?_
          exact kt)
      by_cases hc86 : (((P4.toUInt32 >>> ((2 : Int32) &&& 31).toUInt32).toInt32) &&& (3 : Int32)) = (1 : Int32)
      · have c123 : Exa Z T119.heap b107 "com/example/kept_reads/keptreads/wire/ReadGroup" := ((p111_0.ext E113).keep K119)
        obtain ⟨cq122, kq122, q122a, q122b, q122c⟩ := isOf hZ rfl c123
        obtain ⟨_, _, ⟨T122, L122, k122, n122⟩, -, X122, ⟨Lc122, hQ122, l122, y122, z122⟩, st122⟩ := X119.virtualBack hx (y := (⟨"com/example/kept_reads/keptreads/wire/ReadGroup", "equals", "(Ljava/lang/Object;)Z"⟩ : MethodName)) (z := (⟨"com/example/kept_reads/keptreads/wire/ReadGroup", "equals", "(Ljava/lang/Object;)Z"⟩ : MethodName)) hown (mvT hZ (hw _ (List.mem_of_getElem? (i := 21) rfl))) (mvT hZ (hw _ (List.mem_of_getElem? (i := 22) rfl))) (notFace_of_selects (args := #[]) (mvT hZ (hw _ (List.mem_of_getElem? (i := 24) rfl)))) (mvT hZ (hw _ (List.mem_of_getElem? (i := 24) rfl))) (mvT hZ (hw _ (List.mem_of_getElem? (i := 23) rfl))) (by decide) (backOf (W := 0) (rmeqS l Z a0 hw [] b107 b107 T119.heap n0 Z120 (show b107 = b107 from rfl)) hZ (hw _ (List.mem_of_getElem? (i := 25) rfl)) (hw _ (List.mem_of_getElem? (i := 10) rfl)) (by decide) (by decide)) q122a q122c (g := (mkF m 93 #[.val (.long P0), .second, .val (.int P1), .val (.long P2), .second, .val (.int P3), .val (.int P4), .val (.long (tf1_0 P0)), .second, .val (.int (tf2_0 P1)), .val (.long (tf1_0 P2)), .second, .val (.int (tf2_0 P3)), .val (.ref b107), .val (.ref b113), .val (.int (((P4.toUInt32 >>> ((2 : Int32) &&& 31).toUInt32).toInt32) &&& (3 : Int32))), .unset] [(.ref b107), (.ref b107)])) rfl (by rw [hml]; rfl) (Steps.refl _) (argsL := [(.ref b107)]) (rest := []) (lenOf pd_0_3 rfl) rfl (by show 2 * 0 + _ ≤ _; exact Nat.le_of_eq rfl) (hb hby at_93) (fun _ _ => ⟨rfl, rfl, (by decide : 2 + 0 ≤ _), (by decide : 4 + 0 ≤ _)⟩)
        dsimp only [Pt.U, Pt.locs, Pt.cells, Pt.slots] at X122 l122 y122 z122 st122 hQ122
        subst l122 y122 z122
        obtain ⟨rfl, N122q, K122⟩ := hQ122
        have N122 := Fr.app N119 N122q
        have pre124 : ∀ t, Steps p.tables e below (T122.setTop (mkF m 96 #[.val (.long P0), .second, .val (.int P1), .val (.long P2), .second, .val (.int P3), .val (.int P4), .val (.long (tf1_0 P0)), .second, .val (.int (tf2_0 P1)), .val (.long (tf1_0 P2)), .second, .val (.int (tf2_0 P3)), .val (.ref b107), .val (.ref b113), .val (.int (((P4.toUInt32 >>> ((2 : Int32) &&& 31).toUInt32).toInt32) &&& (3 : Int32))), .unset] [(.int (1 : Int32))])) t → Steps p.tables e below (s₁.setTop (entryFrame m #[(.long P0), (.int P1), (.long P2), (.int P3), (.int P4)] maxLocals)) t := fun t kt => pre121 t (by
            show Steps p.tables e below (T119.setTop (mkF m 86 #[.val (.long P0), .second, .val (.int P1), .val (.long P2), .second, .val (.int P3), .val (.int P4), .val (.long (tf1_0 P0)), .second, .val (.int (tf2_0 P1)), .val (.long (tf1_0 P2)), .second, .val (.int (tf2_0 P3)), .val (.ref b107), .val (.ref b113), .val (.int (((P4.toUInt32 >>> ((2 : Int32) &&& 31).toUInt32).toInt32) &&& (3 : Int32))), .unset] [(.int (1 : Int32)), (.int (((P4.toUInt32 >>> ((2 : Int32) &&& 31).toUInt32).toInt32) &&& (3 : Int32)))])) _
            refine XS.icmpNo X119.here hx rfl (hb hby at_86) rfl (teq hc86).2 ?_
            show Steps p.tables e below (T119.setTop (mkF m 89 #[.val (.long P0), .second, .val (.int P1), .val (.long P2), .second, .val (.int P3), .val (.int P4), .val (.long (tf1_0 P0)), .second, .val (.int (tf2_0 P1)), .val (.long (tf1_0 P2)), .second, .val (.int (tf2_0 P3)), .val (.ref b107), .val (.ref b113), .val (.int (((P4.toUInt32 >>> ((2 : Int32) &&& 31).toUInt32).toInt32) &&& (3 : Int32))), .unset] [])) _
            refine XS.aload X119.here hx rfl (hb hby at_89) rfl rfl ?_
            show Steps p.tables e below (T119.setTop (mkF m 91 #[.val (.long P0), .second, .val (.int P1), .val (.long P2), .second, .val (.int P3), .val (.int P4), .val (.long (tf1_0 P0)), .second, .val (.int (tf2_0 P1)), .val (.long (tf1_0 P2)), .second, .val (.int (tf2_0 P3)), .val (.ref b107), .val (.ref b113), .val (.int (((P4.toUInt32 >>> ((2 : Int32) &&& 31).toUInt32).toInt32) &&& (3 : Int32))), .unset] [(.ref b107)])) _
            refine XS.aload X119.here hx rfl (hb hby at_91) rfl rfl ?_
            show Steps p.tables e below (T119.setTop (mkF m 93 #[.val (.long P0), .second, .val (.int P1), .val (.long P2), .second, .val (.int P3), .val (.int P4), .val (.long (tf1_0 P0)), .second, .val (.int (tf2_0 P1)), .val (.long (tf1_0 P2)), .second, .val (.int (tf2_0 P3)), .val (.ref b107), .val (.ref b113), .val (.int (((P4.toUInt32 >>> ((2 : Int32) &&& 31).toUInt32).toInt32) &&& (3 : Int32))), .unset] [(.ref b107), (.ref b107)])) _
            refine st122.trans ?_
            exact kt)
        obtain ⟨fs, hr, hrun, hended, hW, hsame⟩ := X122.leave (v := some (.int (1 : Int32))) (fun h => by rw [Bd.returns] at h; cases h)
        refine ⟨_, _, pre124 _ ?_, hrun, hended, _, _, rfl, ?_, ⟨_, rfl⟩, hW, hsame.mono (by decide) (by decide)⟩
        · show Steps p.tables e below (T122.setTop (mkF m 96 #[.val (.long P0), .second, .val (.int P1), .val (.long P2), .second, .val (.int P3), .val (.int P4), .val (.long (tf1_0 P0)), .second, .val (.int (tf2_0 P1)), .val (.long (tf1_0 P2)), .second, .val (.int (tf2_0 P3)), .val (.ref b107), .val (.ref b113), .val (.int (((P4.toUInt32 >>> ((2 : Int32) &&& 31).toUInt32).toInt32) &&& (3 : Int32))), .unset] [(.int (1 : Int32))])) _
          exact retN X122 hx (t := .boolean) Bd.returns (by simp) (hb hby at_96) hr
        · show Q0 Z P0 P1 P2 P3 P4 U0 h0 n0 _ T122.heap _
          rw [K122]
          exact ⟨rfl, N122⟩
      · have pre125 : ∀ t, Steps p.tables e below (T119.setTop (mkF m 100 #[.val (.long P0), .second, .val (.int P1), .val (.long P2), .second, .val (.int P3), .val (.int P4), .val (.long (tf1_0 P0)), .second, .val (.int (tf2_0 P1)), .val (.long (tf1_0 P2)), .second, .val (.int (tf2_0 P3)), .val (.ref b107), .val (.ref b113), .val (.int (((P4.toUInt32 >>> ((2 : Int32) &&& 31).toUInt32).toInt32) &&& (3 : Int32))), .unset] [(.int (2 : Int32)), (.int (((P4.toUInt32 >>> ((2 : Int32) &&& 31).toUInt32).toInt32) &&& (3 : Int32)))])) t → Steps p.tables e below (s₁.setTop (entryFrame m #[(.long P0), (.int P1), (.long P2), (.int P3), (.int P4)] maxLocals)) t := fun t kt => pre121 t (by
            show Steps p.tables e below (T119.setTop (mkF m 86 #[.val (.long P0), .second, .val (.int P1), .val (.long P2), .second, .val (.int P3), .val (.int P4), .val (.long (tf1_0 P0)), .second, .val (.int (tf2_0 P1)), .val (.long (tf1_0 P2)), .second, .val (.int (tf2_0 P3)), .val (.ref b107), .val (.ref b113), .val (.int (((P4.toUInt32 >>> ((2 : Int32) &&& 31).toUInt32).toInt32) &&& (3 : Int32))), .unset] [(.int (1 : Int32)), (.int (((P4.toUInt32 >>> ((2 : Int32) &&& 31).toUInt32).toInt32) &&& (3 : Int32)))])) _
            refine XS.icmpYes X119.here hx rfl (pc0 := 86) (pc' := 97) rfl (hb hby at_86) rfl (feq hc86).2 (by decide) (by decide) ?_
            show Steps p.tables e below (T119.setTop (mkF m 97 #[.val (.long P0), .second, .val (.int P1), .val (.long P2), .second, .val (.int P3), .val (.int P4), .val (.long (tf1_0 P0)), .second, .val (.int (tf2_0 P1)), .val (.long (tf1_0 P2)), .second, .val (.int (tf2_0 P3)), .val (.ref b107), .val (.ref b113), .val (.int (((P4.toUInt32 >>> ((2 : Int32) &&& 31).toUInt32).toInt32) &&& (3 : Int32))), .unset] [])) _
            refine XS.iload X119.here hx rfl (hb hby at_97) rfl ?_
            show Steps p.tables e below (T119.setTop (mkF m 99 #[.val (.long P0), .second, .val (.int P1), .val (.long P2), .second, .val (.int P3), .val (.int P4), .val (.long (tf1_0 P0)), .second, .val (.int (tf2_0 P1)), .val (.long (tf1_0 P2)), .second, .val (.int (tf2_0 P3)), .val (.ref b107), .val (.ref b113), .val (.int (((P4.toUInt32 >>> ((2 : Int32) &&& 31).toUInt32).toInt32) &&& (3 : Int32))), .unset] [(.int (((P4.toUInt32 >>> ((2 : Int32) &&& 31).toUInt32).toInt32) &&& (3 : Int32)))])) _
            refine XS.iconst X119.here hx rfl (hb hby at_99) ?_
            exact kt)
        by_cases hc100 : (((P4.toUInt32 >>> ((2 : Int32) &&& 31).toUInt32).toInt32) &&& (3 : Int32)) = (2 : Int32)
        · have c127 : Exa Z T119.heap b107 "com/example/kept_reads/keptreads/wire/ReadGroup" := ((p111_0.ext E113).keep K119)
          obtain ⟨cq126, kq126, q126a, q126b, q126c⟩ := isOf hZ rfl c127
          obtain ⟨_, _, ⟨T126, L126, k126, n126⟩, -, X126, ⟨Lc126, hQ126, l126, y126, z126⟩, st126⟩ := X119.virtualBack hx (y := (⟨"com/example/kept_reads/keptreads/wire/ReadGroup", "equals", "(Ljava/lang/Object;)Z"⟩ : MethodName)) (z := (⟨"com/example/kept_reads/keptreads/wire/ReadGroup", "equals", "(Ljava/lang/Object;)Z"⟩ : MethodName)) hown (mvT hZ (hw _ (List.mem_of_getElem? (i := 21) rfl))) (mvT hZ (hw _ (List.mem_of_getElem? (i := 22) rfl))) (notFace_of_selects (args := #[]) (mvT hZ (hw _ (List.mem_of_getElem? (i := 24) rfl)))) (mvT hZ (hw _ (List.mem_of_getElem? (i := 24) rfl))) (mvT hZ (hw _ (List.mem_of_getElem? (i := 23) rfl))) (by decide) (backOf (W := 0) (rmeqN l Z a0 hw [] b107 T119.heap n0 Z120 ) hZ (hw _ (List.mem_of_getElem? (i := 25) rfl)) (hw _ (List.mem_of_getElem? (i := 10) rfl)) (by decide) (by decide)) q126a q126c (g := (mkF m 106 #[.val (.long P0), .second, .val (.int P1), .val (.long P2), .second, .val (.int P3), .val (.int P4), .val (.long (tf1_0 P0)), .second, .val (.int (tf2_0 P1)), .val (.long (tf1_0 P2)), .second, .val (.int (tf2_0 P3)), .val (.ref b107), .val (.ref b113), .val (.int (((P4.toUInt32 >>> ((2 : Int32) &&& 31).toUInt32).toInt32) &&& (3 : Int32))), .unset] [.null, (.ref b107)])) rfl (by rw [hml]; rfl) (Steps.refl _) (argsL := [.null]) (rest := []) (lenOf pd_0_3 rfl) rfl (by show 2 * 0 + _ ≤ _; exact Nat.le_of_eq rfl) (hb hby at_106) (fun _ _ => ⟨rfl, rfl, (by decide : 2 + 0 ≤ _), (by decide : 4 + 0 ≤ _)⟩)
          dsimp only [Pt.U, Pt.locs, Pt.cells, Pt.slots] at X126 l126 y126 z126 st126 hQ126
          subst l126 y126 z126
          obtain ⟨rfl, N126q, K126⟩ := hQ126
          have N126 := Fr.app N119 N126q
          have pre128 : ∀ t, Steps p.tables e below (T126.setTop (mkF m 117 #[.val (.long P0), .second, .val (.int P1), .val (.long P2), .second, .val (.int P3), .val (.int P4), .val (.long (tf1_0 P0)), .second, .val (.int (tf2_0 P1)), .val (.long (tf1_0 P2)), .second, .val (.int (tf2_0 P3)), .val (.ref b107), .val (.ref b113), .val (.int (((P4.toUInt32 >>> ((2 : Int32) &&& 31).toUInt32).toInt32) &&& (3 : Int32))), .unset] [(.int (1 : Int32))])) t → Steps p.tables e below (s₁.setTop (entryFrame m #[(.long P0), (.int P1), (.long P2), (.int P3), (.int P4)] maxLocals)) t := fun t kt => pre125 t (by
              show Steps p.tables e below (T119.setTop (mkF m 100 #[.val (.long P0), .second, .val (.int P1), .val (.long P2), .second, .val (.int P3), .val (.int P4), .val (.long (tf1_0 P0)), .second, .val (.int (tf2_0 P1)), .val (.long (tf1_0 P2)), .second, .val (.int (tf2_0 P3)), .val (.ref b107), .val (.ref b113), .val (.int (((P4.toUInt32 >>> ((2 : Int32) &&& 31).toUInt32).toInt32) &&& (3 : Int32))), .unset] [(.int (2 : Int32)), (.int (((P4.toUInt32 >>> ((2 : Int32) &&& 31).toUInt32).toInt32) &&& (3 : Int32)))])) _
              refine XS.icmpNo X119.here hx rfl (hb hby at_100) rfl (teq hc100).2 ?_
              show Steps p.tables e below (T119.setTop (mkF m 103 #[.val (.long P0), .second, .val (.int P1), .val (.long P2), .second, .val (.int P3), .val (.int P4), .val (.long (tf1_0 P0)), .second, .val (.int (tf2_0 P1)), .val (.long (tf1_0 P2)), .second, .val (.int (tf2_0 P3)), .val (.ref b107), .val (.ref b113), .val (.int (((P4.toUInt32 >>> ((2 : Int32) &&& 31).toUInt32).toInt32) &&& (3 : Int32))), .unset] [])) _
              refine XS.aload X119.here hx rfl (hb hby at_103) rfl rfl ?_
              show Steps p.tables e below (T119.setTop (mkF m 105 #[.val (.long P0), .second, .val (.int P1), .val (.long P2), .second, .val (.int P3), .val (.int P4), .val (.long (tf1_0 P0)), .second, .val (.int (tf2_0 P1)), .val (.long (tf1_0 P2)), .second, .val (.int (tf2_0 P3)), .val (.ref b107), .val (.ref b113), .val (.int (((P4.toUInt32 >>> ((2 : Int32) &&& 31).toUInt32).toInt32) &&& (3 : Int32))), .unset] [(.ref b107)])) _
              refine XS.aconstNull X119.here hx rfl (hb hby at_105) ?_
              show Steps p.tables e below (T119.setTop (mkF m 106 #[.val (.long P0), .second, .val (.int P1), .val (.long P2), .second, .val (.int P3), .val (.int P4), .val (.long (tf1_0 P0)), .second, .val (.int (tf2_0 P1)), .val (.long (tf1_0 P2)), .second, .val (.int (tf2_0 P3)), .val (.ref b107), .val (.ref b113), .val (.int (((P4.toUInt32 >>> ((2 : Int32) &&& 31).toUInt32).toInt32) &&& (3 : Int32))), .unset] [.null, (.ref b107)])) _
              refine st126.trans ?_
              show Steps p.tables e below (T126.setTop (mkF m 109 #[.val (.long P0), .second, .val (.int P1), .val (.long P2), .second, .val (.int P3), .val (.int P4), .val (.long (tf1_0 P0)), .second, .val (.int (tf2_0 P1)), .val (.long (tf1_0 P2)), .second, .val (.int (tf2_0 P3)), .val (.ref b107), .val (.ref b113), .val (.int (((P4.toUInt32 >>> ((2 : Int32) &&& 31).toUInt32).toInt32) &&& (3 : Int32))), .unset] [(.int (0 : Int32))])) _
              refine XS.ifNo X126.here hx rfl (hb hby at_109) rfl ((if0 _ _).trans (teq (show (0 : Int32) = (0 : Int32) from (by decide))).2) ?_
              show Steps p.tables e below (T126.setTop (mkF m 112 #[.val (.long P0), .second, .val (.int P1), .val (.long P2), .second, .val (.int P3), .val (.int P4), .val (.long (tf1_0 P0)), .second, .val (.int (tf2_0 P1)), .val (.long (tf1_0 P2)), .second, .val (.int (tf2_0 P3)), .val (.ref b107), .val (.ref b113), .val (.int (((P4.toUInt32 >>> ((2 : Int32) &&& 31).toUInt32).toInt32) &&& (3 : Int32))), .unset] [])) _
              refine XS.iconst X126.here hx rfl (hb hby at_112) ?_
              show Steps p.tables e below (T126.setTop (mkF m 113 #[.val (.long P0), .second, .val (.int P1), .val (.long P2), .second, .val (.int P3), .val (.int P4), .val (.long (tf1_0 P0)), .second, .val (.int (tf2_0 P1)), .val (.long (tf1_0 P2)), .second, .val (.int (tf2_0 P3)), .val (.ref b107), .val (.ref b113), .val (.int (((P4.toUInt32 >>> ((2 : Int32) &&& 31).toUInt32).toInt32) &&& (3 : Int32))), .unset] [(.int (1 : Int32))])) _
              refine XS.goto X126.here hx rfl (pc0 := 113) (pc' := 117) rfl (hb hby at_113) (by decide) (by decide) ?_
              exact kt)
          obtain ⟨fs, hr, hrun, hended, hW, hsame⟩ := X126.leave (v := some (.int (1 : Int32))) (fun h => by rw [Bd.returns] at h; cases h)
          refine ⟨_, _, pre128 _ ?_, hrun, hended, _, _, rfl, ?_, ⟨_, rfl⟩, hW, hsame.mono (by decide) (by decide)⟩
          · show Steps p.tables e below (T126.setTop (mkF m 117 #[.val (.long P0), .second, .val (.int P1), .val (.long P2), .second, .val (.int P3), .val (.int P4), .val (.long (tf1_0 P0)), .second, .val (.int (tf2_0 P1)), .val (.long (tf1_0 P2)), .second, .val (.int (tf2_0 P3)), .val (.ref b107), .val (.ref b113), .val (.int (((P4.toUInt32 >>> ((2 : Int32) &&& 31).toUInt32).toInt32) &&& (3 : Int32))), .unset] [(.int (1 : Int32))])) _
            exact retN X126 hx (t := .boolean) Bd.returns (by simp) (hb hby at_117) hr
          · show Q0 Z P0 P1 P2 P3 P4 U0 h0 n0 _ T126.heap _
            rw [K126]
            exact ⟨rfl, N126⟩
        · have pre129 : ∀ t, Steps p.tables e below (T119.setTop (mkF m 121 #[.val (.long P0), .second, .val (.int P1), .val (.long P2), .second, .val (.int P3), .val (.int P4), .val (.long (tf1_0 P0)), .second, .val (.int (tf2_0 P1)), .val (.long (tf1_0 P2)), .second, .val (.int (tf2_0 P3)), .val (.ref b107), .val (.ref b113), .val (.int (((P4.toUInt32 >>> ((2 : Int32) &&& 31).toUInt32).toInt32) &&& (3 : Int32))), .unset] [(.int (3 : Int32)), (.int (((P4.toUInt32 >>> ((2 : Int32) &&& 31).toUInt32).toInt32) &&& (3 : Int32)))])) t → Steps p.tables e below (s₁.setTop (entryFrame m #[(.long P0), (.int P1), (.long P2), (.int P3), (.int P4)] maxLocals)) t := fun t kt => pre125 t (by
              show Steps p.tables e below (T119.setTop (mkF m 100 #[.val (.long P0), .second, .val (.int P1), .val (.long P2), .second, .val (.int P3), .val (.int P4), .val (.long (tf1_0 P0)), .second, .val (.int (tf2_0 P1)), .val (.long (tf1_0 P2)), .second, .val (.int (tf2_0 P3)), .val (.ref b107), .val (.ref b113), .val (.int (((P4.toUInt32 >>> ((2 : Int32) &&& 31).toUInt32).toInt32) &&& (3 : Int32))), .unset] [(.int (2 : Int32)), (.int (((P4.toUInt32 >>> ((2 : Int32) &&& 31).toUInt32).toInt32) &&& (3 : Int32)))])) _
              refine XS.icmpYes X119.here hx rfl (pc0 := 100) (pc' := 118) rfl (hb hby at_100) rfl (feq hc100).2 (by decide) (by decide) ?_
              show Steps p.tables e below (T119.setTop (mkF m 118 #[.val (.long P0), .second, .val (.int P1), .val (.long P2), .second, .val (.int P3), .val (.int P4), .val (.long (tf1_0 P0)), .second, .val (.int (tf2_0 P1)), .val (.long (tf1_0 P2)), .second, .val (.int (tf2_0 P3)), .val (.ref b107), .val (.ref b113), .val (.int (((P4.toUInt32 >>> ((2 : Int32) &&& 31).toUInt32).toInt32) &&& (3 : Int32))), .unset] [])) _
              refine XS.iload X119.here hx rfl (hb hby at_118) rfl ?_
              show Steps p.tables e below (T119.setTop (mkF m 120 #[.val (.long P0), .second, .val (.int P1), .val (.long P2), .second, .val (.int P3), .val (.int P4), .val (.long (tf1_0 P0)), .second, .val (.int (tf2_0 P1)), .val (.long (tf1_0 P2)), .second, .val (.int (tf2_0 P3)), .val (.ref b107), .val (.ref b113), .val (.int (((P4.toUInt32 >>> ((2 : Int32) &&& 31).toUInt32).toInt32) &&& (3 : Int32))), .unset] [(.int (((P4.toUInt32 >>> ((2 : Int32) &&& 31).toUInt32).toInt32) &&& (3 : Int32)))])) _
              refine XS.iconst X119.here hx rfl (hb hby at_120) ?_
              exact kt)
          by_cases hc121 : (((P4.toUInt32 >>> ((2 : Int32) &&& 31).toUInt32).toInt32) &&& (3 : Int32)) = (3 : Int32)
          · have c130 : own_Cac Z T119.heap "java/lang/Long" U0 := ((c115.ext E113).keep K119 (ninS ne114 nin0))
            obtain ⟨_, _, ⟨T131, L131, k131, n131⟩, -, X131, ⟨Lc131, hQ131, l131, y131, z131⟩, st131⟩ := Jvm.LawKit.callS X119 hx (y := (⟨"java/lang/Long", "valueOf", "(J)Ljava/lang/Long;"⟩ : MethodName)) hown (mvT hZ (hw _ (List.mem_of_getElem? (i := 28) rfl))) (mvT hZ (hw _ (List.mem_of_getElem? (i := 29) rfl))) (mvT hZ (hw _ (List.mem_of_getElem? (i := 30) rfl))) (mvT hZ (hw _ (List.mem_of_getElem? (i := 31) rfl))) (by decide) (backOf (W := 0) (rm6 l Z a0 hw [] (tf1_0 P0) U0 T119.heap n0 Z120 ss119_0 c130) hZ (hw _ (List.mem_of_getElem? (i := 31) rfl)) (hw _ (List.mem_of_getElem? (i := 30) rfl)) (by decide) (by decide)) (g := (mkF m 126 #[.val (.long P0), .second, .val (.int P1), .val (.long P2), .second, .val (.int P3), .val (.int P4), .val (.long (tf1_0 P0)), .second, .val (.int (tf2_0 P1)), .val (.long (tf1_0 P2)), .second, .val (.int (tf2_0 P3)), .val (.ref b107), .val (.ref b113), .val (.int (((P4.toUInt32 >>> ((2 : Int32) &&& 31).toUInt32).toInt32) &&& (3 : Int32))), .unset] [(.long (tf1_0 P0))])) rfl (by rw [hml]; rfl) (argsL := [(.long (tf1_0 P0))]) (rest := []) (lenOf pd_0_4 rfl) rfl (by show 2 * 0 + _ ≤ _; exact Nat.le_of_eq rfl) (hb hby at_126) (fun _ _ => ⟨rfl, rfl, (by decide : 2 + 1 ≤ _), (by decide : 4 + 1 ≤ _)⟩)
            dsimp only [Pt.U, Pt.locs, Pt.cells, Pt.slots] at X131 l131 y131 z131 st131 hQ131
            subst l131 y131 z131
            obtain ⟨x131_R0, rfl, N131q, K131, p131_0⟩ := hQ131
            have N131 := Fr.app N119 N131q
            have Z132 : n0 ≤ T131.heap.size := Nat.le_trans Z120 K131.1
            have ss131_0 : Sta Z T131.heap "java/lang/Long$LongCache" "cache" "[Ljava/lang/Long;" (.ref U0) := own_sta_keep ss119_0 K131 all0
            have c133 : Exa Z T131.heap b107 "com/example/kept_reads/keptreads/wire/ReadGroup" := (((p111_0.ext E113).keep K119).keep K131)
            obtain ⟨cq134, kq134, q134a, q134b, q134c⟩ := isOf hZ rfl c133
            obtain ⟨_, _, ⟨T134, L134, k134, n134⟩, -, X134, ⟨Lc134, hQ134, l134, y134, z134⟩, st134⟩ := X131.virtualBack hx (y := (⟨"com/example/kept_reads/keptreads/wire/ReadGroup", "equals", "(Ljava/lang/Object;)Z"⟩ : MethodName)) (z := (⟨"com/example/kept_reads/keptreads/wire/ReadGroup", "equals", "(Ljava/lang/Object;)Z"⟩ : MethodName)) hown (mvT hZ (hw _ (List.mem_of_getElem? (i := 21) rfl))) (mvT hZ (hw _ (List.mem_of_getElem? (i := 22) rfl))) (notFace_of_selects (args := #[]) (mvT hZ (hw _ (List.mem_of_getElem? (i := 24) rfl)))) (mvT hZ (hw _ (List.mem_of_getElem? (i := 24) rfl))) (mvT hZ (hw _ (List.mem_of_getElem? (i := 23) rfl))) (by decide) (backOf (W := 0) (rmeqL l Z a0 hw [] b107 x131_R0 T131.heap n0 Z132 p131_0 (show b107 ≠ x131_R0 from (ne_exa c133 p131_0 (by decide)))) hZ (hw _ (List.mem_of_getElem? (i := 25) rfl)) (hw _ (List.mem_of_getElem? (i := 10) rfl)) (by decide) (by decide)) q134a q134c (g := (mkF m 135 #[.val (.long P0), .second, .val (.int P1), .val (.long P2), .second, .val (.int P3), .val (.int P4), .val (.long (tf1_0 P0)), .second, .val (.int (tf2_0 P1)), .val (.long (tf1_0 P2)), .second, .val (.int (tf2_0 P3)), .val (.ref b107), .val (.ref b113), .val (.int (((P4.toUInt32 >>> ((2 : Int32) &&& 31).toUInt32).toInt32) &&& (3 : Int32))), .val (.ref x131_R0)] [(.ref x131_R0), (.ref b107)])) rfl (by rw [hml]; rfl) (Steps.refl _) (argsL := [(.ref x131_R0)]) (rest := []) (lenOf pd_0_3 rfl) rfl (by show 2 * 0 + _ ≤ _; exact Nat.le_of_eq rfl) (hb hby at_135) (fun _ _ => ⟨rfl, rfl, (by decide : 3 + 0 ≤ _), (by decide : 5 + 0 ≤ _)⟩)
            dsimp only [Pt.U, Pt.locs, Pt.cells, Pt.slots] at X134 l134 y134 z134 st134 hQ134
            subst l134 y134 z134
            obtain ⟨rfl, N134q, K134⟩ := hQ134
            have N134 := Fr.app N131 N134q
            have pre135 : ∀ t, Steps p.tables e below (T134.setTop (mkF m 146 #[.val (.long P0), .second, .val (.int P1), .val (.long P2), .second, .val (.int P3), .val (.int P4), .val (.long (tf1_0 P0)), .second, .val (.int (tf2_0 P1)), .val (.long (tf1_0 P2)), .second, .val (.int (tf2_0 P3)), .val (.ref b107), .val (.ref b113), .val (.int (((P4.toUInt32 >>> ((2 : Int32) &&& 31).toUInt32).toInt32) &&& (3 : Int32))), .val (.ref x131_R0)] [(.int (1 : Int32))])) t → Steps p.tables e below (s₁.setTop (entryFrame m #[(.long P0), (.int P1), (.long P2), (.int P3), (.int P4)] maxLocals)) t := fun t kt => pre129 t (by
                show Steps p.tables e below (T119.setTop (mkF m 121 #[.val (.long P0), .second, .val (.int P1), .val (.long P2), .second, .val (.int P3), .val (.int P4), .val (.long (tf1_0 P0)), .second, .val (.int (tf2_0 P1)), .val (.long (tf1_0 P2)), .second, .val (.int (tf2_0 P3)), .val (.ref b107), .val (.ref b113), .val (.int (((P4.toUInt32 >>> ((2 : Int32) &&& 31).toUInt32).toInt32) &&& (3 : Int32))), .unset] [(.int (3 : Int32)), (.int (((P4.toUInt32 >>> ((2 : Int32) &&& 31).toUInt32).toInt32) &&& (3 : Int32)))])) _
                refine XS.icmpNo X119.here hx rfl (hb hby at_121) rfl (teq hc121).2 ?_
                show Steps p.tables e below (T119.setTop (mkF m 124 #[.val (.long P0), .second, .val (.int P1), .val (.long P2), .second, .val (.int P3), .val (.int P4), .val (.long (tf1_0 P0)), .second, .val (.int (tf2_0 P1)), .val (.long (tf1_0 P2)), .second, .val (.int (tf2_0 P3)), .val (.ref b107), .val (.ref b113), .val (.int (((P4.toUInt32 >>> ((2 : Int32) &&& 31).toUInt32).toInt32) &&& (3 : Int32))), .unset] [])) _
                refine XS.lload X119.here hx rfl (hb hby at_124) rfl ?_
                show Steps p.tables e below (T119.setTop (mkF m 126 #[.val (.long P0), .second, .val (.int P1), .val (.long P2), .second, .val (.int P3), .val (.int P4), .val (.long (tf1_0 P0)), .second, .val (.int (tf2_0 P1)), .val (.long (tf1_0 P2)), .second, .val (.int (tf2_0 P3)), .val (.ref b107), .val (.ref b113), .val (.int (((P4.toUInt32 >>> ((2 : Int32) &&& 31).toUInt32).toInt32) &&& (3 : Int32))), .unset] [(.long (tf1_0 P0))])) _
                refine st131 _ ?_
                show Steps p.tables e below (T131.setTop (mkF m 129 #[.val (.long P0), .second, .val (.int P1), .val (.long P2), .second, .val (.int P3), .val (.int P4), .val (.long (tf1_0 P0)), .second, .val (.int (tf2_0 P1)), .val (.long (tf1_0 P2)), .second, .val (.int (tf2_0 P3)), .val (.ref b107), .val (.ref b113), .val (.int (((P4.toUInt32 >>> ((2 : Int32) &&& 31).toUInt32).toInt32) &&& (3 : Int32))), .unset] [(.ref x131_R0)])) _
                refine XS.astore X131.here hx rfl (hb hby at_129) rfl rfl (l' := #[.val (.long P0), .second, .val (.int P1), .val (.long P2), .second, .val (.int P3), .val (.int P4), .val (.long (tf1_0 P0)), .second, .val (.int (tf2_0 P1)), .val (.long (tf1_0 P2)), .second, .val (.int (tf2_0 P3)), .val (.ref b107), .val (.ref b113), .val (.int (((P4.toUInt32 >>> ((2 : Int32) &&& 31).toUInt32).toInt32) &&& (3 : Int32))), .val (.ref x131_R0)]) rfl ?_
                show Steps p.tables e below (T131.setTop (mkF m 131 #[.val (.long P0), .second, .val (.int P1), .val (.long P2), .second, .val (.int P3), .val (.int P4), .val (.long (tf1_0 P0)), .second, .val (.int (tf2_0 P1)), .val (.long (tf1_0 P2)), .second, .val (.int (tf2_0 P3)), .val (.ref b107), .val (.ref b113), .val (.int (((P4.toUInt32 >>> ((2 : Int32) &&& 31).toUInt32).toInt32) &&& (3 : Int32))), .val (.ref x131_R0)] [])) _
                refine XS.aload X131.here hx rfl (hb hby at_131) rfl rfl ?_
                show Steps p.tables e below (T131.setTop (mkF m 133 #[.val (.long P0), .second, .val (.int P1), .val (.long P2), .second, .val (.int P3), .val (.int P4), .val (.long (tf1_0 P0)), .second, .val (.int (tf2_0 P1)), .val (.long (tf1_0 P2)), .second, .val (.int (tf2_0 P3)), .val (.ref b107), .val (.ref b113), .val (.int (((P4.toUInt32 >>> ((2 : Int32) &&& 31).toUInt32).toInt32) &&& (3 : Int32))), .val (.ref x131_R0)] [(.ref b107)])) _
                refine XS.aload X131.here hx rfl (hb hby at_133) rfl rfl ?_
                show Steps p.tables e below (T131.setTop (mkF m 135 #[.val (.long P0), .second, .val (.int P1), .val (.long P2), .second, .val (.int P3), .val (.int P4), .val (.long (tf1_0 P0)), .second, .val (.int (tf2_0 P1)), .val (.long (tf1_0 P2)), .second, .val (.int (tf2_0 P3)), .val (.ref b107), .val (.ref b113), .val (.int (((P4.toUInt32 >>> ((2 : Int32) &&& 31).toUInt32).toInt32) &&& (3 : Int32))), .val (.ref x131_R0)] [(.ref x131_R0), (.ref b107)])) _
                refine st134.trans ?_
                show Steps p.tables e below (T134.setTop (mkF m 138 #[.val (.long P0), .second, .val (.int P1), .val (.long P2), .second, .val (.int P3), .val (.int P4), .val (.long (tf1_0 P0)), .second, .val (.int (tf2_0 P1)), .val (.long (tf1_0 P2)), .second, .val (.int (tf2_0 P3)), .val (.ref b107), .val (.ref b113), .val (.int (((P4.toUInt32 >>> ((2 : Int32) &&& 31).toUInt32).toInt32) &&& (3 : Int32))), .val (.ref x131_R0)] [(.int (0 : Int32))])) _
                refine XS.ifNo X134.here hx rfl (hb hby at_138) rfl ((if0 _ _).trans (teq (show (0 : Int32) = (0 : Int32) from (by decide))).2) ?_
                show Steps p.tables e below (T134.setTop (mkF m 141 #[.val (.long P0), .second, .val (.int P1), .val (.long P2), .second, .val (.int P3), .val (.int P4), .val (.long (tf1_0 P0)), .second, .val (.int (tf2_0 P1)), .val (.long (tf1_0 P2)), .second, .val (.int (tf2_0 P3)), .val (.ref b107), .val (.ref b113), .val (.int (((P4.toUInt32 >>> ((2 : Int32) &&& 31).toUInt32).toInt32) &&& (3 : Int32))), .val (.ref x131_R0)] [])) _
                refine XS.iconst X134.here hx rfl (hb hby at_141) ?_
                show Steps p.tables e below (T134.setTop (mkF m 142 #[.val (.long P0), .second, .val (.int P1), .val (.long P2), .second, .val (.int P3), .val (.int P4), .val (.long (tf1_0 P0)), .second, .val (.int (tf2_0 P1)), .val (.long (tf1_0 P2)), .second, .val (.int (tf2_0 P3)), .val (.ref b107), .val (.ref b113), .val (.int (((P4.toUInt32 >>> ((2 : Int32) &&& 31).toUInt32).toInt32) &&& (3 : Int32))), .val (.ref x131_R0)] [(.int (1 : Int32))])) _
                refine XS.goto X134.here hx rfl (pc0 := 142) (pc' := 146) rfl (hb hby at_142) (by decide) (by decide) ?_
                exact kt)
            obtain ⟨fs, hr, hrun, hended, hW, hsame⟩ := X134.leave (v := some (.int (1 : Int32))) (fun h => by rw [Bd.returns] at h; cases h)
            refine ⟨_, _, pre135 _ ?_, hrun, hended, _, _, rfl, ?_, ⟨_, rfl⟩, hW, hsame.mono (by decide) (by decide)⟩
            · show Steps p.tables e below (T134.setTop (mkF m 146 #[.val (.long P0), .second, .val (.int P1), .val (.long P2), .second, .val (.int P3), .val (.int P4), .val (.long (tf1_0 P0)), .second, .val (.int (tf2_0 P1)), .val (.long (tf1_0 P2)), .second, .val (.int (tf2_0 P3)), .val (.ref b107), .val (.ref b113), .val (.int (((P4.toUInt32 >>> ((2 : Int32) &&& 31).toUInt32).toInt32) &&& (3 : Int32))), .val (.ref x131_R0)] [(.int (1 : Int32))])) _
              exact retN X134 hx (t := .boolean) Bd.returns (by simp) (hb hby at_146) hr
            · show Q0 Z P0 P1 P2 P3 P4 U0 h0 n0 _ T134.heap _
              rw [K134]
              exact ⟨rfl, N134⟩
          · have pre136 : ∀ t, Steps p.tables e below (T119.setTop (mkF m 152 #[.val (.long P0), .second, .val (.int P1), .val (.long P2), .second, .val (.int P3), .val (.int P4), .val (.long (tf1_0 P0)), .second, .val (.int (tf2_0 P1)), .val (.long (tf1_0 P2)), .second, .val (.int (tf2_0 P3)), .val (.ref b107), .val (.ref b113), .val (.int (((P4.toUInt32 >>> ((2 : Int32) &&& 31).toUInt32).toInt32) &&& (3 : Int32))), .unset] [(.int (lcmpW (tf1_0 P0) (tf1_0 P2)))])) t → Steps p.tables e below (s₁.setTop (entryFrame m #[(.long P0), (.int P1), (.long P2), (.int P3), (.int P4)] maxLocals)) t := fun t kt => pre129 t (by
                show Steps p.tables e below (T119.setTop (mkF m 121 #[.val (.long P0), .second, .val (.int P1), .val (.long P2), .second, .val (.int P3), .val (.int P4), .val (.long (tf1_0 P0)), .second, .val (.int (tf2_0 P1)), .val (.long (tf1_0 P2)), .second, .val (.int (tf2_0 P3)), .val (.ref b107), .val (.ref b113), .val (.int (((P4.toUInt32 >>> ((2 : Int32) &&& 31).toUInt32).toInt32) &&& (3 : Int32))), .unset] [(.int (3 : Int32)), (.int (((P4.toUInt32 >>> ((2 : Int32) &&& 31).toUInt32).toInt32) &&& (3 : Int32)))])) _
                refine XS.icmpYes X119.here hx rfl (pc0 := 121) (pc' := 147) rfl (hb hby at_121) rfl (feq hc121).2 (by decide) (by decide) ?_
                show Steps p.tables e below (T119.setTop (mkF m 147 #[.val (.long P0), .second, .val (.int P1), .val (.long P2), .second, .val (.int P3), .val (.int P4), .val (.long (tf1_0 P0)), .second, .val (.int (tf2_0 P1)), .val (.long (tf1_0 P2)), .second, .val (.int (tf2_0 P3)), .val (.ref b107), .val (.ref b113), .val (.int (((P4.toUInt32 >>> ((2 : Int32) &&& 31).toUInt32).toInt32) &&& (3 : Int32))), .unset] [])) _
                refine XS.lload X119.here hx rfl (hb hby at_147) rfl ?_
                show Steps p.tables e below (T119.setTop (mkF m 149 #[.val (.long P0), .second, .val (.int P1), .val (.long P2), .second, .val (.int P3), .val (.int P4), .val (.long (tf1_0 P0)), .second, .val (.int (tf2_0 P1)), .val (.long (tf1_0 P2)), .second, .val (.int (tf2_0 P3)), .val (.ref b107), .val (.ref b113), .val (.int (((P4.toUInt32 >>> ((2 : Int32) &&& 31).toUInt32).toInt32) &&& (3 : Int32))), .unset] [(.long (tf1_0 P0))])) _
                refine XS.lload X119.here hx rfl (hb hby at_149) rfl ?_
                show Steps p.tables e below (T119.setTop (mkF m 151 #[.val (.long P0), .second, .val (.int P1), .val (.long P2), .second, .val (.int P3), .val (.int P4), .val (.long (tf1_0 P0)), .second, .val (.int (tf2_0 P1)), .val (.long (tf1_0 P2)), .second, .val (.int (tf2_0 P3)), .val (.ref b107), .val (.ref b113), .val (.int (((P4.toUInt32 >>> ((2 : Int32) &&& 31).toUInt32).toInt32) &&& (3 : Int32))), .unset] [(.long (tf1_0 P2)), (.long (tf1_0 P0))])) _
                refine XS.lcmp X119.here hx rfl (hb hby at_151) rfl ?_
                exact kt)
            by_cases hc152 : (tf1_0 P0) = (tf1_0 P2)
            · have pre137 : ∀ t, Steps p.tables e below (T119.setTop (mkF m 159 #[.val (.long P0), .second, .val (.int P1), .val (.long P2), .second, .val (.int P3), .val (.int P4), .val (.long (tf1_0 P0)), .second, .val (.int (tf2_0 P1)), .val (.long (tf1_0 P2)), .second, .val (.int (tf2_0 P3)), .val (.ref b107), .val (.ref b113), .val (.int (((P4.toUInt32 >>> ((2 : Int32) &&& 31).toUInt32).toInt32) &&& (3 : Int32))), .unset] [(.int (tf2_0 P3)), (.int (tf2_0 P1))])) t → Steps p.tables e below (s₁.setTop (entryFrame m #[(.long P0), (.int P1), (.long P2), (.int P3), (.int P4)] maxLocals)) t := fun t kt => pre136 t (by
                  show Steps p.tables e below (T119.setTop (mkF m 152 #[.val (.long P0), .second, .val (.int P1), .val (.long P2), .second, .val (.int P3), .val (.int P4), .val (.long (tf1_0 P0)), .second, .val (.int (tf2_0 P1)), .val (.long (tf1_0 P2)), .second, .val (.int (tf2_0 P3)), .val (.ref b107), .val (.ref b113), .val (.int (((P4.toUInt32 >>> ((2 : Int32) &&& 31).toUInt32).toInt32) &&& (3 : Int32))), .unset] [(.int (lcmpW (tf1_0 P0) (tf1_0 P2)))])) _
                  refine XS.ifNo X119.here hx rfl (hb hby at_152) rfl ((if0 _ _).trans (teq ((lw_eq (tf1_0 P0) (tf1_0 P2)).mpr hc152)).2) ?_
                  show Steps p.tables e below (T119.setTop (mkF m 155 #[.val (.long P0), .second, .val (.int P1), .val (.long P2), .second, .val (.int P3), .val (.int P4), .val (.long (tf1_0 P0)), .second, .val (.int (tf2_0 P1)), .val (.long (tf1_0 P2)), .second, .val (.int (tf2_0 P3)), .val (.ref b107), .val (.ref b113), .val (.int (((P4.toUInt32 >>> ((2 : Int32) &&& 31).toUInt32).toInt32) &&& (3 : Int32))), .unset] [])) _
                  refine XS.iload X119.here hx rfl (hb hby at_155) rfl ?_
                  show Steps p.tables e below (T119.setTop (mkF m 157 #[.val (.long P0), .second, .val (.int P1), .val (.long P2), .second, .val (.int P3), .val (.int P4), .val (.long (tf1_0 P0)), .second, .val (.int (tf2_0 P1)), .val (.long (tf1_0 P2)), .second, .val (.int (tf2_0 P3)), .val (.ref b107), .val (.ref b113), .val (.int (((P4.toUInt32 >>> ((2 : Int32) &&& 31).toUInt32).toInt32) &&& (3 : Int32))), .unset] [(.int (tf2_0 P1))])) _
                  refine XS.iload X119.here hx rfl (hb hby at_157) rfl ?_
                  exact kt)
              by_cases hc159 : (tf2_0 P1) = (tf2_0 P3)
              · have c138 : Fld Z T119.heap b107 "com/example/kept_reads/keptreads/wire/ReadGroup" "transaction" "J" (.long (tf1_0 P0)) := ((p111_1.ext E113).keep K119 (ninS ne116 nin0))
                have c139 : Fld Z T119.heap b107 "com/example/kept_reads/keptreads/wire/ReadGroup" "call" "I" (.int (tf2_0 P1)) := ((p111_2.ext E113).keep K119 (ninS ne116 nin0))
                have c141 : Exa Z T119.heap b107 "com/example/kept_reads/keptreads/wire/ReadGroup" := ((p111_0.ext E113).keep K119)
                obtain ⟨cq140, kq140, q140a, q140b, q140c⟩ := isOf hZ rfl c141
                obtain ⟨_, _, ⟨T140, L140, k140, n140⟩, -, X140, ⟨Lc140, hQ140, l140, y140, z140⟩, st140⟩ := X119.virtualBack hx (y := (⟨"com/example/kept_reads/keptreads/wire/ReadGroup", "equals", "(Ljava/lang/Object;)Z"⟩ : MethodName)) (z := (⟨"com/example/kept_reads/keptreads/wire/ReadGroup", "equals", "(Ljava/lang/Object;)Z"⟩ : MethodName)) hown (mvT hZ (hw _ (List.mem_of_getElem? (i := 21) rfl))) (mvT hZ (hw _ (List.mem_of_getElem? (i := 22) rfl))) (notFace_of_selects (args := #[]) (mvT hZ (hw _ (List.mem_of_getElem? (i := 24) rfl)))) (mvT hZ (hw _ (List.mem_of_getElem? (i := 24) rfl))) (mvT hZ (hw _ (List.mem_of_getElem? (i := 23) rfl))) (by decide) (backOf (W := 0) (rmeqR l Z a0 hw [] b107 b113 (tf1_0 P0) (tf2_0 P1) (tf1_0 P2) (tf2_0 P3) T119.heap n0 Z120 c138 c139 p119_1 p119_2 p119_0 (show b107 ≠ b113 from ne116)) hZ (hw _ (List.mem_of_getElem? (i := 25) rfl)) (hw _ (List.mem_of_getElem? (i := 10) rfl)) (by decide) (by decide)) q140a q140c (g := (mkF m 173 #[.val (.long P0), .second, .val (.int P1), .val (.long P2), .second, .val (.int P3), .val (.int P4), .val (.long (tf1_0 P0)), .second, .val (.int (tf2_0 P1)), .val (.long (tf1_0 P2)), .second, .val (.int (tf2_0 P3)), .val (.ref b107), .val (.ref b113), .val (.int (((P4.toUInt32 >>> ((2 : Int32) &&& 31).toUInt32).toInt32) &&& (3 : Int32))), .val (.int (1 : Int32))] [(.ref b113), (.ref b107)])) rfl (by rw [hml]; rfl) (Steps.refl _) (argsL := [(.ref b113)]) (rest := []) (lenOf pd_0_3 rfl) rfl (by show 2 * 0 + _ ≤ _; exact Nat.le_of_eq rfl) (hb hby at_173) (fun _ _ => ⟨rfl, rfl, (by decide : 2 + 0 ≤ _), (by decide : 4 + 0 ≤ _)⟩)
                dsimp only [Pt.U, Pt.locs, Pt.cells, Pt.slots] at X140 l140 y140 z140 st140 hQ140
                subst l140 y140 z140
                obtain ⟨rfl, N140q, K140⟩ := hQ140
                have N140 := Fr.app N119 N140q
                obtain ⟨cq142, kq142, q142a, q142b, q142c⟩ := isOf hZ K140 p119_0
                obtain ⟨_, _, ⟨T142, L142, k142, n142⟩, -, X142, ⟨Lc142, hQ142, l142, y142, z142⟩, st142⟩ := X140.virtualBack hx (y := (⟨"com/example/kept_reads/keptreads/wire/ReadGroup", "equals", "(Ljava/lang/Object;)Z"⟩ : MethodName)) (z := (⟨"com/example/kept_reads/keptreads/wire/ReadGroup", "equals", "(Ljava/lang/Object;)Z"⟩ : MethodName)) hown (mvT hZ (hw _ (List.mem_of_getElem? (i := 21) rfl))) (mvT hZ (hw _ (List.mem_of_getElem? (i := 22) rfl))) (notFace_of_selects (args := #[]) (mvT hZ (hw _ (List.mem_of_getElem? (i := 24) rfl)))) (mvT hZ (hw _ (List.mem_of_getElem? (i := 24) rfl))) (mvT hZ (hw _ (List.mem_of_getElem? (i := 23) rfl))) (by decide) (backOf (W := 0) (rmeqR l Z a0 hw [] b113 b107 (tf1_0 P2) (tf2_0 P3) (tf1_0 P0) (tf2_0 P1) T119.heap n0 Z120 p119_1 p119_2 c138 c139 c141 (show b113 ≠ b107 from (Ne.symm ne116))) hZ (hw _ (List.mem_of_getElem? (i := 25) rfl)) (hw _ (List.mem_of_getElem? (i := 10) rfl)) (by decide) (by decide)) q142a q142c (g := (mkF m 185 #[.val (.long P0), .second, .val (.int P1), .val (.long P2), .second, .val (.int P3), .val (.int P4), .val (.long (tf1_0 P0)), .second, .val (.int (tf2_0 P1)), .val (.long (tf1_0 P2)), .second, .val (.int (tf2_0 P3)), .val (.ref b107), .val (.ref b113), .val (.int (((P4.toUInt32 >>> ((2 : Int32) &&& 31).toUInt32).toInt32) &&& (3 : Int32))), .val (.int (1 : Int32))] [(.ref b107), (.ref b113)])) rfl (by rw [hml]; rfl) (Steps.refl _) (argsL := [(.ref b107)]) (rest := []) (lenOf pd_0_3 rfl) rfl (by show 2 * 0 + _ ≤ _; exact Nat.le_of_eq rfl) (hb hby at_185) (fun _ _ => ⟨rfl, K140, (by decide : 2 + 0 ≤ _), (by decide : 4 + 0 ≤ _)⟩)
                dsimp only [Pt.U, Pt.locs, Pt.cells, Pt.slots] at X142 l142 y142 z142 st142 hQ142
                subst l142 y142 z142
                obtain ⟨rfl, N142q, K142⟩ := hQ142
                have N142 := Fr.app N140 N142q
                have pre143 : ∀ t, Steps p.tables e below (T142.setTop (mkF m 198 #[.val (.long P0), .second, .val (.int P1), .val (.long P2), .second, .val (.int P3), .val (.int P4), .val (.long (tf1_0 P0)), .second, .val (.int (tf2_0 P1)), .val (.long (tf1_0 P2)), .second, .val (.int (tf2_0 P3)), .val (.ref b107), .val (.ref b113), .val (.int (((P4.toUInt32 >>> ((2 : Int32) &&& 31).toUInt32).toInt32) &&& (3 : Int32))), .val (.int (1 : Int32))] [(.int (1 : Int32))])) t → Steps p.tables e below (s₁.setTop (entryFrame m #[(.long P0), (.int P1), (.long P2), (.int P3), (.int P4)] maxLocals)) t := fun t kt => pre137 t (by
                    show Steps p.tables e below (T119.setTop (mkF m 159 #[.val (.long P0), .second, .val (.int P1), .val (.long P2), .second, .val (.int P3), .val (.int P4), .val (.long (tf1_0 P0)), .second, .val (.int (tf2_0 P1)), .val (.long (tf1_0 P2)), .second, .val (.int (tf2_0 P3)), .val (.ref b107), .val (.ref b113), .val (.int (((P4.toUInt32 >>> ((2 : Int32) &&& 31).toUInt32).toInt32) &&& (3 : Int32))), .unset] [(.int (tf2_0 P3)), (.int (tf2_0 P1))])) _
                    refine XS.icmpNo X119.here hx rfl (hb hby at_159) rfl (teq hc159).2 ?_
                    show Steps p.tables e below (T119.setTop (mkF m 162 #[.val (.long P0), .second, .val (.int P1), .val (.long P2), .second, .val (.int P3), .val (.int P4), .val (.long (tf1_0 P0)), .second, .val (.int (tf2_0 P1)), .val (.long (tf1_0 P2)), .second, .val (.int (tf2_0 P3)), .val (.ref b107), .val (.ref b113), .val (.int (((P4.toUInt32 >>> ((2 : Int32) &&& 31).toUInt32).toInt32) &&& (3 : Int32))), .unset] [])) _
                    refine XS.iconst X119.here hx rfl (hb hby at_162) ?_
                    show Steps p.tables e below (T119.setTop (mkF m 163 #[.val (.long P0), .second, .val (.int P1), .val (.long P2), .second, .val (.int P3), .val (.int P4), .val (.long (tf1_0 P0)), .second, .val (.int (tf2_0 P1)), .val (.long (tf1_0 P2)), .second, .val (.int (tf2_0 P3)), .val (.ref b107), .val (.ref b113), .val (.int (((P4.toUInt32 >>> ((2 : Int32) &&& 31).toUInt32).toInt32) &&& (3 : Int32))), .unset] [(.int (1 : Int32))])) _
                    refine XS.goto X119.here hx rfl (pc0 := 163) (pc' := 167) rfl (hb hby at_163) (by decide) (by decide) ?_
                    show Steps p.tables e below (T119.setTop (mkF m 167 #[.val (.long P0), .second, .val (.int P1), .val (.long P2), .second, .val (.int P3), .val (.int P4), .val (.long (tf1_0 P0)), .second, .val (.int (tf2_0 P1)), .val (.long (tf1_0 P2)), .second, .val (.int (tf2_0 P3)), .val (.ref b107), .val (.ref b113), .val (.int (((P4.toUInt32 >>> ((2 : Int32) &&& 31).toUInt32).toInt32) &&& (3 : Int32))), .unset] [(.int (1 : Int32))])) _
                    refine XS.istore X119.here hx rfl (hb hby at_167) rfl (l' := #[.val (.long P0), .second, .val (.int P1), .val (.long P2), .second, .val (.int P3), .val (.int P4), .val (.long (tf1_0 P0)), .second, .val (.int (tf2_0 P1)), .val (.long (tf1_0 P2)), .second, .val (.int (tf2_0 P3)), .val (.ref b107), .val (.ref b113), .val (.int (((P4.toUInt32 >>> ((2 : Int32) &&& 31).toUInt32).toInt32) &&& (3 : Int32))), .val (.int (1 : Int32))]) rfl ?_
                    show Steps p.tables e below (T119.setTop (mkF m 169 #[.val (.long P0), .second, .val (.int P1), .val (.long P2), .second, .val (.int P3), .val (.int P4), .val (.long (tf1_0 P0)), .second, .val (.int (tf2_0 P1)), .val (.long (tf1_0 P2)), .second, .val (.int (tf2_0 P3)), .val (.ref b107), .val (.ref b113), .val (.int (((P4.toUInt32 >>> ((2 : Int32) &&& 31).toUInt32).toInt32) &&& (3 : Int32))), .val (.int (1 : Int32))] [])) _
                    refine XS.aload X119.here hx rfl (hb hby at_169) rfl rfl ?_
                    show Steps p.tables e below (T119.setTop (mkF m 171 #[.val (.long P0), .second, .val (.int P1), .val (.long P2), .second, .val (.int P3), .val (.int P4), .val (.long (tf1_0 P0)), .second, .val (.int (tf2_0 P1)), .val (.long (tf1_0 P2)), .second, .val (.int (tf2_0 P3)), .val (.ref b107), .val (.ref b113), .val (.int (((P4.toUInt32 >>> ((2 : Int32) &&& 31).toUInt32).toInt32) &&& (3 : Int32))), .val (.int (1 : Int32))] [(.ref b107)])) _
                    refine XS.aload X119.here hx rfl (hb hby at_171) rfl rfl ?_
                    show Steps p.tables e below (T119.setTop (mkF m 173 #[.val (.long P0), .second, .val (.int P1), .val (.long P2), .second, .val (.int P3), .val (.int P4), .val (.long (tf1_0 P0)), .second, .val (.int (tf2_0 P1)), .val (.long (tf1_0 P2)), .second, .val (.int (tf2_0 P3)), .val (.ref b107), .val (.ref b113), .val (.int (((P4.toUInt32 >>> ((2 : Int32) &&& 31).toUInt32).toInt32) &&& (3 : Int32))), .val (.int (1 : Int32))] [(.ref b113), (.ref b107)])) _
                    refine st140.trans ?_
                    show Steps p.tables e below (T140.setTop (mkF m 176 #[.val (.long P0), .second, .val (.int P1), .val (.long P2), .second, .val (.int P3), .val (.int P4), .val (.long (tf1_0 P0)), .second, .val (.int (tf2_0 P1)), .val (.long (tf1_0 P2)), .second, .val (.int (tf2_0 P3)), .val (.ref b107), .val (.ref b113), .val (.int (((P4.toUInt32 >>> ((2 : Int32) &&& 31).toUInt32).toInt32) &&& (3 : Int32))), .val (.int (1 : Int32))] [(.int (own_eq (tf1_0 P0) (tf1_0 P2) (tf2_0 P1) (tf2_0 P3)))])) _
                    refine XS.iload X140.here hx rfl (hb hby at_176) rfl ?_
                    show Steps p.tables e below (T140.setTop (mkF m 178 #[.val (.long P0), .second, .val (.int P1), .val (.long P2), .second, .val (.int P3), .val (.int P4), .val (.long (tf1_0 P0)), .second, .val (.int (tf2_0 P1)), .val (.long (tf1_0 P2)), .second, .val (.int (tf2_0 P3)), .val (.ref b107), .val (.ref b113), .val (.int (((P4.toUInt32 >>> ((2 : Int32) &&& 31).toUInt32).toInt32) &&& (3 : Int32))), .val (.int (1 : Int32))] [(.int (1 : Int32)), (.int (own_eq (tf1_0 P0) (tf1_0 P2) (tf2_0 P1) (tf2_0 P3)))])) _
                    refine XS.icmpNo X140.here hx rfl (hb hby at_178) rfl (teq (show (own_eq (tf1_0 P0) (tf1_0 P2) (tf2_0 P1) (tf2_0 P3)) = (1 : Int32) from (by unfold own_eq; rw [if_pos hc152, if_pos hc159]))).2 ?_
                    show Steps p.tables e below (T140.setTop (mkF m 181 #[.val (.long P0), .second, .val (.int P1), .val (.long P2), .second, .val (.int P3), .val (.int P4), .val (.long (tf1_0 P0)), .second, .val (.int (tf2_0 P1)), .val (.long (tf1_0 P2)), .second, .val (.int (tf2_0 P3)), .val (.ref b107), .val (.ref b113), .val (.int (((P4.toUInt32 >>> ((2 : Int32) &&& 31).toUInt32).toInt32) &&& (3 : Int32))), .val (.int (1 : Int32))] [])) _
                    refine XS.aload X140.here hx rfl (hb hby at_181) rfl rfl ?_
                    show Steps p.tables e below (T140.setTop (mkF m 183 #[.val (.long P0), .second, .val (.int P1), .val (.long P2), .second, .val (.int P3), .val (.int P4), .val (.long (tf1_0 P0)), .second, .val (.int (tf2_0 P1)), .val (.long (tf1_0 P2)), .second, .val (.int (tf2_0 P3)), .val (.ref b107), .val (.ref b113), .val (.int (((P4.toUInt32 >>> ((2 : Int32) &&& 31).toUInt32).toInt32) &&& (3 : Int32))), .val (.int (1 : Int32))] [(.ref b113)])) _
                    refine XS.aload X140.here hx rfl (hb hby at_183) rfl rfl ?_
                    show Steps p.tables e below (T140.setTop (mkF m 185 #[.val (.long P0), .second, .val (.int P1), .val (.long P2), .second, .val (.int P3), .val (.int P4), .val (.long (tf1_0 P0)), .second, .val (.int (tf2_0 P1)), .val (.long (tf1_0 P2)), .second, .val (.int (tf2_0 P3)), .val (.ref b107), .val (.ref b113), .val (.int (((P4.toUInt32 >>> ((2 : Int32) &&& 31).toUInt32).toInt32) &&& (3 : Int32))), .val (.int (1 : Int32))] [(.ref b107), (.ref b113)])) _
                    refine st142.trans ?_
                    show Steps p.tables e below (T142.setTop (mkF m 188 #[.val (.long P0), .second, .val (.int P1), .val (.long P2), .second, .val (.int P3), .val (.int P4), .val (.long (tf1_0 P0)), .second, .val (.int (tf2_0 P1)), .val (.long (tf1_0 P2)), .second, .val (.int (tf2_0 P3)), .val (.ref b107), .val (.ref b113), .val (.int (((P4.toUInt32 >>> ((2 : Int32) &&& 31).toUInt32).toInt32) &&& (3 : Int32))), .val (.int (1 : Int32))] [(.int (own_eq (tf1_0 P2) (tf1_0 P0) (tf2_0 P3) (tf2_0 P1)))])) _
                    refine XS.iload X142.here hx rfl (hb hby at_188) rfl ?_
                    show Steps p.tables e below (T142.setTop (mkF m 190 #[.val (.long P0), .second, .val (.int P1), .val (.long P2), .second, .val (.int P3), .val (.int P4), .val (.long (tf1_0 P0)), .second, .val (.int (tf2_0 P1)), .val (.long (tf1_0 P2)), .second, .val (.int (tf2_0 P3)), .val (.ref b107), .val (.ref b113), .val (.int (((P4.toUInt32 >>> ((2 : Int32) &&& 31).toUInt32).toInt32) &&& (3 : Int32))), .val (.int (1 : Int32))] [(.int (1 : Int32)), (.int (own_eq (tf1_0 P2) (tf1_0 P0) (tf2_0 P3) (tf2_0 P1)))])) _
                    refine XS.icmpNo X142.here hx rfl (hb hby at_190) rfl (teq (show (own_eq (tf1_0 P2) (tf1_0 P0) (tf2_0 P3) (tf2_0 P1)) = (1 : Int32) from (by unfold own_eq; rw [if_pos hc152.symm, if_pos hc159.symm]))).2 ?_
                    show Steps p.tables e below (T142.setTop (mkF m 193 #[.val (.long P0), .second, .val (.int P1), .val (.long P2), .second, .val (.int P3), .val (.int P4), .val (.long (tf1_0 P0)), .second, .val (.int (tf2_0 P1)), .val (.long (tf1_0 P2)), .second, .val (.int (tf2_0 P3)), .val (.ref b107), .val (.ref b113), .val (.int (((P4.toUInt32 >>> ((2 : Int32) &&& 31).toUInt32).toInt32) &&& (3 : Int32))), .val (.int (1 : Int32))] [])) _
                    refine XS.iconst X142.here hx rfl (hb hby at_193) ?_
                    show Steps p.tables e below (T142.setTop (mkF m 194 #[.val (.long P0), .second, .val (.int P1), .val (.long P2), .second, .val (.int P3), .val (.int P4), .val (.long (tf1_0 P0)), .second, .val (.int (tf2_0 P1)), .val (.long (tf1_0 P2)), .second, .val (.int (tf2_0 P3)), .val (.ref b107), .val (.ref b113), .val (.int (((P4.toUInt32 >>> ((2 : Int32) &&& 31).toUInt32).toInt32) &&& (3 : Int32))), .val (.int (1 : Int32))] [(.int (1 : Int32))])) _
                    refine XS.goto X142.here hx rfl (pc0 := 194) (pc' := 198) rfl (hb hby at_194) (by decide) (by decide) ?_
                    exact kt)
                obtain ⟨fs, hr, hrun, hended, hW, hsame⟩ := X142.leave (v := some (.int (1 : Int32))) (fun h => by rw [Bd.returns] at h; cases h)
                refine ⟨_, _, pre143 _ ?_, hrun, hended, _, _, rfl, ?_, ⟨_, rfl⟩, hW, hsame.mono (by decide) (by decide)⟩
                · show Steps p.tables e below (T142.setTop (mkF m 198 #[.val (.long P0), .second, .val (.int P1), .val (.long P2), .second, .val (.int P3), .val (.int P4), .val (.long (tf1_0 P0)), .second, .val (.int (tf2_0 P1)), .val (.long (tf1_0 P2)), .second, .val (.int (tf2_0 P3)), .val (.ref b107), .val (.ref b113), .val (.int (((P4.toUInt32 >>> ((2 : Int32) &&& 31).toUInt32).toInt32) &&& (3 : Int32))), .val (.int (1 : Int32))] [(.int (1 : Int32))])) _
                  exact retN X142 hx (t := .boolean) Bd.returns (by simp) (hb hby at_198) hr
                · show Q0 Z P0 P1 P2 P3 P4 U0 h0 n0 _ T142.heap _
                  rw [K142]
                  exact ⟨rfl, N142⟩
              · have c144 : Fld Z T119.heap b107 "com/example/kept_reads/keptreads/wire/ReadGroup" "transaction" "J" (.long (tf1_0 P0)) := ((p111_1.ext E113).keep K119 (ninS ne116 nin0))
                have c145 : Fld Z T119.heap b107 "com/example/kept_reads/keptreads/wire/ReadGroup" "call" "I" (.int (tf2_0 P1)) := ((p111_2.ext E113).keep K119 (ninS ne116 nin0))
                have c147 : Exa Z T119.heap b107 "com/example/kept_reads/keptreads/wire/ReadGroup" := ((p111_0.ext E113).keep K119)
                obtain ⟨cq146, kq146, q146a, q146b, q146c⟩ := isOf hZ rfl c147
                obtain ⟨_, _, ⟨T146, L146, k146, n146⟩, -, X146, ⟨Lc146, hQ146, l146, y146, z146⟩, st146⟩ := X119.virtualBack hx (y := (⟨"com/example/kept_reads/keptreads/wire/ReadGroup", "equals", "(Ljava/lang/Object;)Z"⟩ : MethodName)) (z := (⟨"com/example/kept_reads/keptreads/wire/ReadGroup", "equals", "(Ljava/lang/Object;)Z"⟩ : MethodName)) hown (mvT hZ (hw _ (List.mem_of_getElem? (i := 21) rfl))) (mvT hZ (hw _ (List.mem_of_getElem? (i := 22) rfl))) (notFace_of_selects (args := #[]) (mvT hZ (hw _ (List.mem_of_getElem? (i := 24) rfl)))) (mvT hZ (hw _ (List.mem_of_getElem? (i := 24) rfl))) (mvT hZ (hw _ (List.mem_of_getElem? (i := 23) rfl))) (by decide) (backOf (W := 0) (rmeqR l Z a0 hw [] b107 b113 (tf1_0 P0) (tf2_0 P1) (tf1_0 P2) (tf2_0 P3) T119.heap n0 Z120 c144 c145 p119_1 p119_2 p119_0 (show b107 ≠ b113 from ne116)) hZ (hw _ (List.mem_of_getElem? (i := 25) rfl)) (hw _ (List.mem_of_getElem? (i := 10) rfl)) (by decide) (by decide)) q146a q146c (g := (mkF m 173 #[.val (.long P0), .second, .val (.int P1), .val (.long P2), .second, .val (.int P3), .val (.int P4), .val (.long (tf1_0 P0)), .second, .val (.int (tf2_0 P1)), .val (.long (tf1_0 P2)), .second, .val (.int (tf2_0 P3)), .val (.ref b107), .val (.ref b113), .val (.int (((P4.toUInt32 >>> ((2 : Int32) &&& 31).toUInt32).toInt32) &&& (3 : Int32))), .val (.int (0 : Int32))] [(.ref b113), (.ref b107)])) rfl (by rw [hml]; rfl) (Steps.refl _) (argsL := [(.ref b113)]) (rest := []) (lenOf pd_0_3 rfl) rfl (by show 2 * 0 + _ ≤ _; exact Nat.le_of_eq rfl) (hb hby at_173) (fun _ _ => ⟨rfl, rfl, (by decide : 2 + 0 ≤ _), (by decide : 4 + 0 ≤ _)⟩)
                dsimp only [Pt.U, Pt.locs, Pt.cells, Pt.slots] at X146 l146 y146 z146 st146 hQ146
                subst l146 y146 z146
                obtain ⟨rfl, N146q, K146⟩ := hQ146
                have N146 := Fr.app N119 N146q
                obtain ⟨cq148, kq148, q148a, q148b, q148c⟩ := isOf hZ K146 p119_0
                obtain ⟨_, _, ⟨T148, L148, k148, n148⟩, -, X148, ⟨Lc148, hQ148, l148, y148, z148⟩, st148⟩ := X146.virtualBack hx (y := (⟨"com/example/kept_reads/keptreads/wire/ReadGroup", "equals", "(Ljava/lang/Object;)Z"⟩ : MethodName)) (z := (⟨"com/example/kept_reads/keptreads/wire/ReadGroup", "equals", "(Ljava/lang/Object;)Z"⟩ : MethodName)) hown (mvT hZ (hw _ (List.mem_of_getElem? (i := 21) rfl))) (mvT hZ (hw _ (List.mem_of_getElem? (i := 22) rfl))) (notFace_of_selects (args := #[]) (mvT hZ (hw _ (List.mem_of_getElem? (i := 24) rfl)))) (mvT hZ (hw _ (List.mem_of_getElem? (i := 24) rfl))) (mvT hZ (hw _ (List.mem_of_getElem? (i := 23) rfl))) (by decide) (backOf (W := 0) (rmeqR l Z a0 hw [] b113 b107 (tf1_0 P2) (tf2_0 P3) (tf1_0 P0) (tf2_0 P1) T119.heap n0 Z120 p119_1 p119_2 c144 c145 c147 (show b113 ≠ b107 from (Ne.symm ne116))) hZ (hw _ (List.mem_of_getElem? (i := 25) rfl)) (hw _ (List.mem_of_getElem? (i := 10) rfl)) (by decide) (by decide)) q148a q148c (g := (mkF m 185 #[.val (.long P0), .second, .val (.int P1), .val (.long P2), .second, .val (.int P3), .val (.int P4), .val (.long (tf1_0 P0)), .second, .val (.int (tf2_0 P1)), .val (.long (tf1_0 P2)), .second, .val (.int (tf2_0 P3)), .val (.ref b107), .val (.ref b113), .val (.int (((P4.toUInt32 >>> ((2 : Int32) &&& 31).toUInt32).toInt32) &&& (3 : Int32))), .val (.int (0 : Int32))] [(.ref b107), (.ref b113)])) rfl (by rw [hml]; rfl) (Steps.refl _) (argsL := [(.ref b107)]) (rest := []) (lenOf pd_0_3 rfl) rfl (by show 2 * 0 + _ ≤ _; exact Nat.le_of_eq rfl) (hb hby at_185) (fun _ _ => ⟨rfl, K146, (by decide : 2 + 0 ≤ _), (by decide : 4 + 0 ≤ _)⟩)
                dsimp only [Pt.U, Pt.locs, Pt.cells, Pt.slots] at X148 l148 y148 z148 st148 hQ148
                subst l148 y148 z148
                obtain ⟨rfl, N148q, K148⟩ := hQ148
                have N148 := Fr.app N146 N148q
                have pre149 : ∀ t, Steps p.tables e below (T148.setTop (mkF m 198 #[.val (.long P0), .second, .val (.int P1), .val (.long P2), .second, .val (.int P3), .val (.int P4), .val (.long (tf1_0 P0)), .second, .val (.int (tf2_0 P1)), .val (.long (tf1_0 P2)), .second, .val (.int (tf2_0 P3)), .val (.ref b107), .val (.ref b113), .val (.int (((P4.toUInt32 >>> ((2 : Int32) &&& 31).toUInt32).toInt32) &&& (3 : Int32))), .val (.int (0 : Int32))] [(.int (1 : Int32))])) t → Steps p.tables e below (s₁.setTop (entryFrame m #[(.long P0), (.int P1), (.long P2), (.int P3), (.int P4)] maxLocals)) t := fun t kt => pre137 t (by
                    show Steps p.tables e below (T119.setTop (mkF m 159 #[.val (.long P0), .second, .val (.int P1), .val (.long P2), .second, .val (.int P3), .val (.int P4), .val (.long (tf1_0 P0)), .second, .val (.int (tf2_0 P1)), .val (.long (tf1_0 P2)), .second, .val (.int (tf2_0 P3)), .val (.ref b107), .val (.ref b113), .val (.int (((P4.toUInt32 >>> ((2 : Int32) &&& 31).toUInt32).toInt32) &&& (3 : Int32))), .unset] [(.int (tf2_0 P3)), (.int (tf2_0 P1))])) _
                    refine XS.icmpYes X119.here hx rfl (pc0 := 159) (pc' := 166) rfl (hb hby at_159) rfl (feq hc159).2 (by decide) (by decide) ?_
                    show Steps p.tables e below (T119.setTop (mkF m 166 #[.val (.long P0), .second, .val (.int P1), .val (.long P2), .second, .val (.int P3), .val (.int P4), .val (.long (tf1_0 P0)), .second, .val (.int (tf2_0 P1)), .val (.long (tf1_0 P2)), .second, .val (.int (tf2_0 P3)), .val (.ref b107), .val (.ref b113), .val (.int (((P4.toUInt32 >>> ((2 : Int32) &&& 31).toUInt32).toInt32) &&& (3 : Int32))), .unset] [])) _
                    refine XS.iconst X119.here hx rfl (hb hby at_166) ?_
                    show Steps p.tables e below (T119.setTop (mkF m 167 #[.val (.long P0), .second, .val (.int P1), .val (.long P2), .second, .val (.int P3), .val (.int P4), .val (.long (tf1_0 P0)), .second, .val (.int (tf2_0 P1)), .val (.long (tf1_0 P2)), .second, .val (.int (tf2_0 P3)), .val (.ref b107), .val (.ref b113), .val (.int (((P4.toUInt32 >>> ((2 : Int32) &&& 31).toUInt32).toInt32) &&& (3 : Int32))), .unset] [(.int (0 : Int32))])) _
                    refine XS.istore X119.here hx rfl (hb hby at_167) rfl (l' := #[.val (.long P0), .second, .val (.int P1), .val (.long P2), .second, .val (.int P3), .val (.int P4), .val (.long (tf1_0 P0)), .second, .val (.int (tf2_0 P1)), .val (.long (tf1_0 P2)), .second, .val (.int (tf2_0 P3)), .val (.ref b107), .val (.ref b113), .val (.int (((P4.toUInt32 >>> ((2 : Int32) &&& 31).toUInt32).toInt32) &&& (3 : Int32))), .val (.int (0 : Int32))]) rfl ?_
                    show Steps p.tables e below (T119.setTop (mkF m 169 #[.val (.long P0), .second, .val (.int P1), .val (.long P2), .second, .val (.int P3), .val (.int P4), .val (.long (tf1_0 P0)), .second, .val (.int (tf2_0 P1)), .val (.long (tf1_0 P2)), .second, .val (.int (tf2_0 P3)), .val (.ref b107), .val (.ref b113), .val (.int (((P4.toUInt32 >>> ((2 : Int32) &&& 31).toUInt32).toInt32) &&& (3 : Int32))), .val (.int (0 : Int32))] [])) _
                    refine XS.aload X119.here hx rfl (hb hby at_169) rfl rfl ?_
                    show Steps p.tables e below (T119.setTop (mkF m 171 #[.val (.long P0), .second, .val (.int P1), .val (.long P2), .second, .val (.int P3), .val (.int P4), .val (.long (tf1_0 P0)), .second, .val (.int (tf2_0 P1)), .val (.long (tf1_0 P2)), .second, .val (.int (tf2_0 P3)), .val (.ref b107), .val (.ref b113), .val (.int (((P4.toUInt32 >>> ((2 : Int32) &&& 31).toUInt32).toInt32) &&& (3 : Int32))), .val (.int (0 : Int32))] [(.ref b107)])) _
                    refine XS.aload X119.here hx rfl (hb hby at_171) rfl rfl ?_
                    show Steps p.tables e below (T119.setTop (mkF m 173 #[.val (.long P0), .second, .val (.int P1), .val (.long P2), .second, .val (.int P3), .val (.int P4), .val (.long (tf1_0 P0)), .second, .val (.int (tf2_0 P1)), .val (.long (tf1_0 P2)), .second, .val (.int (tf2_0 P3)), .val (.ref b107), .val (.ref b113), .val (.int (((P4.toUInt32 >>> ((2 : Int32) &&& 31).toUInt32).toInt32) &&& (3 : Int32))), .val (.int (0 : Int32))] [(.ref b113), (.ref b107)])) _
                    refine st146.trans ?_
                    show Steps p.tables e below (T146.setTop (mkF m 176 #[.val (.long P0), .second, .val (.int P1), .val (.long P2), .second, .val (.int P3), .val (.int P4), .val (.long (tf1_0 P0)), .second, .val (.int (tf2_0 P1)), .val (.long (tf1_0 P2)), .second, .val (.int (tf2_0 P3)), .val (.ref b107), .val (.ref b113), .val (.int (((P4.toUInt32 >>> ((2 : Int32) &&& 31).toUInt32).toInt32) &&& (3 : Int32))), .val (.int (0 : Int32))] [(.int (own_eq (tf1_0 P0) (tf1_0 P2) (tf2_0 P1) (tf2_0 P3)))])) _
                    refine XS.iload X146.here hx rfl (hb hby at_176) rfl ?_
                    show Steps p.tables e below (T146.setTop (mkF m 178 #[.val (.long P0), .second, .val (.int P1), .val (.long P2), .second, .val (.int P3), .val (.int P4), .val (.long (tf1_0 P0)), .second, .val (.int (tf2_0 P1)), .val (.long (tf1_0 P2)), .second, .val (.int (tf2_0 P3)), .val (.ref b107), .val (.ref b113), .val (.int (((P4.toUInt32 >>> ((2 : Int32) &&& 31).toUInt32).toInt32) &&& (3 : Int32))), .val (.int (0 : Int32))] [(.int (0 : Int32)), (.int (own_eq (tf1_0 P0) (tf1_0 P2) (tf2_0 P1) (tf2_0 P3)))])) _
                    refine XS.icmpNo X146.here hx rfl (hb hby at_178) rfl (teq (show (own_eq (tf1_0 P0) (tf1_0 P2) (tf2_0 P1) (tf2_0 P3)) = (0 : Int32) from (by unfold own_eq; rw [if_pos hc152, if_neg hc159]))).2 ?_
                    show Steps p.tables e below (T146.setTop (mkF m 181 #[.val (.long P0), .second, .val (.int P1), .val (.long P2), .second, .val (.int P3), .val (.int P4), .val (.long (tf1_0 P0)), .second, .val (.int (tf2_0 P1)), .val (.long (tf1_0 P2)), .second, .val (.int (tf2_0 P3)), .val (.ref b107), .val (.ref b113), .val (.int (((P4.toUInt32 >>> ((2 : Int32) &&& 31).toUInt32).toInt32) &&& (3 : Int32))), .val (.int (0 : Int32))] [])) _
                    refine XS.aload X146.here hx rfl (hb hby at_181) rfl rfl ?_
                    show Steps p.tables e below (T146.setTop (mkF m 183 #[.val (.long P0), .second, .val (.int P1), .val (.long P2), .second, .val (.int P3), .val (.int P4), .val (.long (tf1_0 P0)), .second, .val (.int (tf2_0 P1)), .val (.long (tf1_0 P2)), .second, .val (.int (tf2_0 P3)), .val (.ref b107), .val (.ref b113), .val (.int (((P4.toUInt32 >>> ((2 : Int32) &&& 31).toUInt32).toInt32) &&& (3 : Int32))), .val (.int (0 : Int32))] [(.ref b113)])) _
                    refine XS.aload X146.here hx rfl (hb hby at_183) rfl rfl ?_
                    show Steps p.tables e below (T146.setTop (mkF m 185 #[.val (.long P0), .second, .val (.int P1), .val (.long P2), .second, .val (.int P3), .val (.int P4), .val (.long (tf1_0 P0)), .second, .val (.int (tf2_0 P1)), .val (.long (tf1_0 P2)), .second, .val (.int (tf2_0 P3)), .val (.ref b107), .val (.ref b113), .val (.int (((P4.toUInt32 >>> ((2 : Int32) &&& 31).toUInt32).toInt32) &&& (3 : Int32))), .val (.int (0 : Int32))] [(.ref b107), (.ref b113)])) _
                    refine st148.trans ?_
                    show Steps p.tables e below (T148.setTop (mkF m 188 #[.val (.long P0), .second, .val (.int P1), .val (.long P2), .second, .val (.int P3), .val (.int P4), .val (.long (tf1_0 P0)), .second, .val (.int (tf2_0 P1)), .val (.long (tf1_0 P2)), .second, .val (.int (tf2_0 P3)), .val (.ref b107), .val (.ref b113), .val (.int (((P4.toUInt32 >>> ((2 : Int32) &&& 31).toUInt32).toInt32) &&& (3 : Int32))), .val (.int (0 : Int32))] [(.int (own_eq (tf1_0 P2) (tf1_0 P0) (tf2_0 P3) (tf2_0 P1)))])) _
                    refine XS.iload X148.here hx rfl (hb hby at_188) rfl ?_
                    show Steps p.tables e below (T148.setTop (mkF m 190 #[.val (.long P0), .second, .val (.int P1), .val (.long P2), .second, .val (.int P3), .val (.int P4), .val (.long (tf1_0 P0)), .second, .val (.int (tf2_0 P1)), .val (.long (tf1_0 P2)), .second, .val (.int (tf2_0 P3)), .val (.ref b107), .val (.ref b113), .val (.int (((P4.toUInt32 >>> ((2 : Int32) &&& 31).toUInt32).toInt32) &&& (3 : Int32))), .val (.int (0 : Int32))] [(.int (0 : Int32)), (.int (own_eq (tf1_0 P2) (tf1_0 P0) (tf2_0 P3) (tf2_0 P1)))])) _
                    refine XS.icmpNo X148.here hx rfl (hb hby at_190) rfl (teq (show (own_eq (tf1_0 P2) (tf1_0 P0) (tf2_0 P3) (tf2_0 P1)) = (0 : Int32) from (by unfold own_eq; rw [if_pos hc152.symm, if_neg (fun q => hc159 q.symm)]))).2 ?_
                    show Steps p.tables e below (T148.setTop (mkF m 193 #[.val (.long P0), .second, .val (.int P1), .val (.long P2), .second, .val (.int P3), .val (.int P4), .val (.long (tf1_0 P0)), .second, .val (.int (tf2_0 P1)), .val (.long (tf1_0 P2)), .second, .val (.int (tf2_0 P3)), .val (.ref b107), .val (.ref b113), .val (.int (((P4.toUInt32 >>> ((2 : Int32) &&& 31).toUInt32).toInt32) &&& (3 : Int32))), .val (.int (0 : Int32))] [])) _
                    refine XS.iconst X148.here hx rfl (hb hby at_193) ?_
                    show Steps p.tables e below (T148.setTop (mkF m 194 #[.val (.long P0), .second, .val (.int P1), .val (.long P2), .second, .val (.int P3), .val (.int P4), .val (.long (tf1_0 P0)), .second, .val (.int (tf2_0 P1)), .val (.long (tf1_0 P2)), .second, .val (.int (tf2_0 P3)), .val (.ref b107), .val (.ref b113), .val (.int (((P4.toUInt32 >>> ((2 : Int32) &&& 31).toUInt32).toInt32) &&& (3 : Int32))), .val (.int (0 : Int32))] [(.int (1 : Int32))])) _
                    refine XS.goto X148.here hx rfl (pc0 := 194) (pc' := 198) rfl (hb hby at_194) (by decide) (by decide) ?_
                    exact kt)
                obtain ⟨fs, hr, hrun, hended, hW, hsame⟩ := X148.leave (v := some (.int (1 : Int32))) (fun h => by rw [Bd.returns] at h; cases h)
                refine ⟨_, _, pre149 _ ?_, hrun, hended, _, _, rfl, ?_, ⟨_, rfl⟩, hW, hsame.mono (by decide) (by decide)⟩
                · show Steps p.tables e below (T148.setTop (mkF m 198 #[.val (.long P0), .second, .val (.int P1), .val (.long P2), .second, .val (.int P3), .val (.int P4), .val (.long (tf1_0 P0)), .second, .val (.int (tf2_0 P1)), .val (.long (tf1_0 P2)), .second, .val (.int (tf2_0 P3)), .val (.ref b107), .val (.ref b113), .val (.int (((P4.toUInt32 >>> ((2 : Int32) &&& 31).toUInt32).toInt32) &&& (3 : Int32))), .val (.int (0 : Int32))] [(.int (1 : Int32))])) _
                  exact retN X148 hx (t := .boolean) Bd.returns (by simp) (hb hby at_198) hr
                · show Q0 Z P0 P1 P2 P3 P4 U0 h0 n0 _ T148.heap _
                  rw [K148]
                  exact ⟨rfl, N148⟩
            · have c150 : Fld Z T119.heap b107 "com/example/kept_reads/keptreads/wire/ReadGroup" "transaction" "J" (.long (tf1_0 P0)) := ((p111_1.ext E113).keep K119 (ninS ne116 nin0))
              have c151 : Fld Z T119.heap b107 "com/example/kept_reads/keptreads/wire/ReadGroup" "call" "I" (.int (tf2_0 P1)) := ((p111_2.ext E113).keep K119 (ninS ne116 nin0))
              have c153 : Exa Z T119.heap b107 "com/example/kept_reads/keptreads/wire/ReadGroup" := ((p111_0.ext E113).keep K119)
              obtain ⟨cq152, kq152, q152a, q152b, q152c⟩ := isOf hZ rfl c153
              obtain ⟨_, _, ⟨T152, L152, k152, n152⟩, -, X152, ⟨Lc152, hQ152, l152, y152, z152⟩, st152⟩ := X119.virtualBack hx (y := (⟨"com/example/kept_reads/keptreads/wire/ReadGroup", "equals", "(Ljava/lang/Object;)Z"⟩ : MethodName)) (z := (⟨"com/example/kept_reads/keptreads/wire/ReadGroup", "equals", "(Ljava/lang/Object;)Z"⟩ : MethodName)) hown (mvT hZ (hw _ (List.mem_of_getElem? (i := 21) rfl))) (mvT hZ (hw _ (List.mem_of_getElem? (i := 22) rfl))) (notFace_of_selects (args := #[]) (mvT hZ (hw _ (List.mem_of_getElem? (i := 24) rfl)))) (mvT hZ (hw _ (List.mem_of_getElem? (i := 24) rfl))) (mvT hZ (hw _ (List.mem_of_getElem? (i := 23) rfl))) (by decide) (backOf (W := 0) (rmeqR l Z a0 hw [] b107 b113 (tf1_0 P0) (tf2_0 P1) (tf1_0 P2) (tf2_0 P3) T119.heap n0 Z120 c150 c151 p119_1 p119_2 p119_0 (show b107 ≠ b113 from ne116)) hZ (hw _ (List.mem_of_getElem? (i := 25) rfl)) (hw _ (List.mem_of_getElem? (i := 10) rfl)) (by decide) (by decide)) q152a q152c (g := (mkF m 173 #[.val (.long P0), .second, .val (.int P1), .val (.long P2), .second, .val (.int P3), .val (.int P4), .val (.long (tf1_0 P0)), .second, .val (.int (tf2_0 P1)), .val (.long (tf1_0 P2)), .second, .val (.int (tf2_0 P3)), .val (.ref b107), .val (.ref b113), .val (.int (((P4.toUInt32 >>> ((2 : Int32) &&& 31).toUInt32).toInt32) &&& (3 : Int32))), .val (.int (0 : Int32))] [(.ref b113), (.ref b107)])) rfl (by rw [hml]; rfl) (Steps.refl _) (argsL := [(.ref b113)]) (rest := []) (lenOf pd_0_3 rfl) rfl (by show 2 * 0 + _ ≤ _; exact Nat.le_of_eq rfl) (hb hby at_173) (fun _ _ => ⟨rfl, rfl, (by decide : 2 + 0 ≤ _), (by decide : 4 + 0 ≤ _)⟩)
              dsimp only [Pt.U, Pt.locs, Pt.cells, Pt.slots] at X152 l152 y152 z152 st152 hQ152
              subst l152 y152 z152
              obtain ⟨rfl, N152q, K152⟩ := hQ152
              have N152 := Fr.app N119 N152q
              obtain ⟨cq154, kq154, q154a, q154b, q154c⟩ := isOf hZ K152 p119_0
              obtain ⟨_, _, ⟨T154, L154, k154, n154⟩, -, X154, ⟨Lc154, hQ154, l154, y154, z154⟩, st154⟩ := X152.virtualBack hx (y := (⟨"com/example/kept_reads/keptreads/wire/ReadGroup", "equals", "(Ljava/lang/Object;)Z"⟩ : MethodName)) (z := (⟨"com/example/kept_reads/keptreads/wire/ReadGroup", "equals", "(Ljava/lang/Object;)Z"⟩ : MethodName)) hown (mvT hZ (hw _ (List.mem_of_getElem? (i := 21) rfl))) (mvT hZ (hw _ (List.mem_of_getElem? (i := 22) rfl))) (notFace_of_selects (args := #[]) (mvT hZ (hw _ (List.mem_of_getElem? (i := 24) rfl)))) (mvT hZ (hw _ (List.mem_of_getElem? (i := 24) rfl))) (mvT hZ (hw _ (List.mem_of_getElem? (i := 23) rfl))) (by decide) (backOf (W := 0) (rmeqR l Z a0 hw [] b113 b107 (tf1_0 P2) (tf2_0 P3) (tf1_0 P0) (tf2_0 P1) T119.heap n0 Z120 p119_1 p119_2 c150 c151 c153 (show b113 ≠ b107 from (Ne.symm ne116))) hZ (hw _ (List.mem_of_getElem? (i := 25) rfl)) (hw _ (List.mem_of_getElem? (i := 10) rfl)) (by decide) (by decide)) q154a q154c (g := (mkF m 185 #[.val (.long P0), .second, .val (.int P1), .val (.long P2), .second, .val (.int P3), .val (.int P4), .val (.long (tf1_0 P0)), .second, .val (.int (tf2_0 P1)), .val (.long (tf1_0 P2)), .second, .val (.int (tf2_0 P3)), .val (.ref b107), .val (.ref b113), .val (.int (((P4.toUInt32 >>> ((2 : Int32) &&& 31).toUInt32).toInt32) &&& (3 : Int32))), .val (.int (0 : Int32))] [(.ref b107), (.ref b113)])) rfl (by rw [hml]; rfl) (Steps.refl _) (argsL := [(.ref b107)]) (rest := []) (lenOf pd_0_3 rfl) rfl (by show 2 * 0 + _ ≤ _; exact Nat.le_of_eq rfl) (hb hby at_185) (fun _ _ => ⟨rfl, K152, (by decide : 2 + 0 ≤ _), (by decide : 4 + 0 ≤ _)⟩)
              dsimp only [Pt.U, Pt.locs, Pt.cells, Pt.slots] at X154 l154 y154 z154 st154 hQ154
              subst l154 y154 z154
              obtain ⟨rfl, N154q, K154⟩ := hQ154
              have N154 := Fr.app N152 N154q
              have pre155 : ∀ t, Steps p.tables e below (T154.setTop (mkF m 198 #[.val (.long P0), .second, .val (.int P1), .val (.long P2), .second, .val (.int P3), .val (.int P4), .val (.long (tf1_0 P0)), .second, .val (.int (tf2_0 P1)), .val (.long (tf1_0 P2)), .second, .val (.int (tf2_0 P3)), .val (.ref b107), .val (.ref b113), .val (.int (((P4.toUInt32 >>> ((2 : Int32) &&& 31).toUInt32).toInt32) &&& (3 : Int32))), .val (.int (0 : Int32))] [(.int (1 : Int32))])) t → Steps p.tables e below (s₁.setTop (entryFrame m #[(.long P0), (.int P1), (.long P2), (.int P3), (.int P4)] maxLocals)) t := fun t kt => pre136 t (by
                  show Steps p.tables e below (T119.setTop (mkF m 152 #[.val (.long P0), .second, .val (.int P1), .val (.long P2), .second, .val (.int P3), .val (.int P4), .val (.long (tf1_0 P0)), .second, .val (.int (tf2_0 P1)), .val (.long (tf1_0 P2)), .second, .val (.int (tf2_0 P3)), .val (.ref b107), .val (.ref b113), .val (.int (((P4.toUInt32 >>> ((2 : Int32) &&& 31).toUInt32).toInt32) &&& (3 : Int32))), .unset] [(.int (lcmpW (tf1_0 P0) (tf1_0 P2)))])) _
                  refine XS.ifYes X119.here hx rfl (pc0 := 152) (pc' := 166) rfl (hb hby at_152) rfl ((if0 _ _).trans (feq (fun q => hc152 ((lw_eq (tf1_0 P0) (tf1_0 P2)).mp q))).2) (by decide) (by decide) ?_
                  show Steps p.tables e below (T119.setTop (mkF m 166 #[.val (.long P0), .second, .val (.int P1), .val (.long P2), .second, .val (.int P3), .val (.int P4), .val (.long (tf1_0 P0)), .second, .val (.int (tf2_0 P1)), .val (.long (tf1_0 P2)), .second, .val (.int (tf2_0 P3)), .val (.ref b107), .val (.ref b113), .val (.int (((P4.toUInt32 >>> ((2 : Int32) &&& 31).toUInt32).toInt32) &&& (3 : Int32))), .unset] [])) _
                  refine XS.iconst X119.here hx rfl (hb hby at_166) ?_
                  show Steps p.tables e below (T119.setTop (mkF m 167 #[.val (.long P0), .second, .val (.int P1), .val (.long P2), .second, .val (.int P3), .val (.int P4), .val (.long (tf1_0 P0)), .second, .val (.int (tf2_0 P1)), .val (.long (tf1_0 P2)), .second, .val (.int (tf2_0 P3)), .val (.ref b107), .val (.ref b113), .val (.int (((P4.toUInt32 >>> ((2 : Int32) &&& 31).toUInt32).toInt32) &&& (3 : Int32))), .unset] [(.int (0 : Int32))])) _
                  refine XS.istore X119.here hx rfl (hb hby at_167) rfl (l' := #[.val (.long P0), .second, .val (.int P1), .val (.long P2), .second, .val (.int P3), .val (.int P4), .val (.long (tf1_0 P0)), .second, .val (.int (tf2_0 P1)), .val (.long (tf1_0 P2)), .second, .val (.int (tf2_0 P3)), .val (.ref b107), .val (.ref b113), .val (.int (((P4.toUInt32 >>> ((2 : Int32) &&& 31).toUInt32).toInt32) &&& (3 : Int32))), .val (.int (0 : Int32))]) rfl ?_
                  show Steps p.tables e below (T119.setTop (mkF m 169 #[.val (.long P0), .second, .val (.int P1), .val (.long P2), .second, .val (.int P3), .val (.int P4), .val (.long (tf1_0 P0)), .second, .val (.int (tf2_0 P1)), .val (.long (tf1_0 P2)), .second, .val (.int (tf2_0 P3)), .val (.ref b107), .val (.ref b113), .val (.int (((P4.toUInt32 >>> ((2 : Int32) &&& 31).toUInt32).toInt32) &&& (3 : Int32))), .val (.int (0 : Int32))] [])) _
                  refine XS.aload X119.here hx rfl (hb hby at_169) rfl rfl ?_
                  show Steps p.tables e below (T119.setTop (mkF m 171 #[.val (.long P0), .second, .val (.int P1), .val (.long P2), .second, .val (.int P3), .val (.int P4), .val (.long (tf1_0 P0)), .second, .val (.int (tf2_0 P1)), .val (.long (tf1_0 P2)), .second, .val (.int (tf2_0 P3)), .val (.ref b107), .val (.ref b113), .val (.int (((P4.toUInt32 >>> ((2 : Int32) &&& 31).toUInt32).toInt32) &&& (3 : Int32))), .val (.int (0 : Int32))] [(.ref b107)])) _
                  refine XS.aload X119.here hx rfl (hb hby at_171) rfl rfl ?_
                  show Steps p.tables e below (T119.setTop (mkF m 173 #[.val (.long P0), .second, .val (.int P1), .val (.long P2), .second, .val (.int P3), .val (.int P4), .val (.long (tf1_0 P0)), .second, .val (.int (tf2_0 P1)), .val (.long (tf1_0 P2)), .second, .val (.int (tf2_0 P3)), .val (.ref b107), .val (.ref b113), .val (.int (((P4.toUInt32 >>> ((2 : Int32) &&& 31).toUInt32).toInt32) &&& (3 : Int32))), .val (.int (0 : Int32))] [(.ref b113), (.ref b107)])) _
                  refine st152.trans ?_
                  show Steps p.tables e below (T152.setTop (mkF m 176 #[.val (.long P0), .second, .val (.int P1), .val (.long P2), .second, .val (.int P3), .val (.int P4), .val (.long (tf1_0 P0)), .second, .val (.int (tf2_0 P1)), .val (.long (tf1_0 P2)), .second, .val (.int (tf2_0 P3)), .val (.ref b107), .val (.ref b113), .val (.int (((P4.toUInt32 >>> ((2 : Int32) &&& 31).toUInt32).toInt32) &&& (3 : Int32))), .val (.int (0 : Int32))] [(.int (own_eq (tf1_0 P0) (tf1_0 P2) (tf2_0 P1) (tf2_0 P3)))])) _
                  refine XS.iload X152.here hx rfl (hb hby at_176) rfl ?_
                  show Steps p.tables e below (T152.setTop (mkF m 178 #[.val (.long P0), .second, .val (.int P1), .val (.long P2), .second, .val (.int P3), .val (.int P4), .val (.long (tf1_0 P0)), .second, .val (.int (tf2_0 P1)), .val (.long (tf1_0 P2)), .second, .val (.int (tf2_0 P3)), .val (.ref b107), .val (.ref b113), .val (.int (((P4.toUInt32 >>> ((2 : Int32) &&& 31).toUInt32).toInt32) &&& (3 : Int32))), .val (.int (0 : Int32))] [(.int (0 : Int32)), (.int (own_eq (tf1_0 P0) (tf1_0 P2) (tf2_0 P1) (tf2_0 P3)))])) _
                  refine XS.icmpNo X152.here hx rfl (hb hby at_178) rfl (teq (show (own_eq (tf1_0 P0) (tf1_0 P2) (tf2_0 P1) (tf2_0 P3)) = (0 : Int32) from (by unfold own_eq; rw [if_neg hc152]))).2 ?_
                  show Steps p.tables e below (T152.setTop (mkF m 181 #[.val (.long P0), .second, .val (.int P1), .val (.long P2), .second, .val (.int P3), .val (.int P4), .val (.long (tf1_0 P0)), .second, .val (.int (tf2_0 P1)), .val (.long (tf1_0 P2)), .second, .val (.int (tf2_0 P3)), .val (.ref b107), .val (.ref b113), .val (.int (((P4.toUInt32 >>> ((2 : Int32) &&& 31).toUInt32).toInt32) &&& (3 : Int32))), .val (.int (0 : Int32))] [])) _
                  refine XS.aload X152.here hx rfl (hb hby at_181) rfl rfl ?_
                  show Steps p.tables e below (T152.setTop (mkF m 183 #[.val (.long P0), .second, .val (.int P1), .val (.long P2), .second, .val (.int P3), .val (.int P4), .val (.long (tf1_0 P0)), .second, .val (.int (tf2_0 P1)), .val (.long (tf1_0 P2)), .second, .val (.int (tf2_0 P3)), .val (.ref b107), .val (.ref b113), .val (.int (((P4.toUInt32 >>> ((2 : Int32) &&& 31).toUInt32).toInt32) &&& (3 : Int32))), .val (.int (0 : Int32))] [(.ref b113)])) _
                  refine XS.aload X152.here hx rfl (hb hby at_183) rfl rfl ?_
                  show Steps p.tables e below (T152.setTop (mkF m 185 #[.val (.long P0), .second, .val (.int P1), .val (.long P2), .second, .val (.int P3), .val (.int P4), .val (.long (tf1_0 P0)), .second, .val (.int (tf2_0 P1)), .val (.long (tf1_0 P2)), .second, .val (.int (tf2_0 P3)), .val (.ref b107), .val (.ref b113), .val (.int (((P4.toUInt32 >>> ((2 : Int32) &&& 31).toUInt32).toInt32) &&& (3 : Int32))), .val (.int (0 : Int32))] [(.ref b107), (.ref b113)])) _
                  refine st154.trans ?_
                  show Steps p.tables e below (T154.setTop (mkF m 188 #[.val (.long P0), .second, .val (.int P1), .val (.long P2), .second, .val (.int P3), .val (.int P4), .val (.long (tf1_0 P0)), .second, .val (.int (tf2_0 P1)), .val (.long (tf1_0 P2)), .second, .val (.int (tf2_0 P3)), .val (.ref b107), .val (.ref b113), .val (.int (((P4.toUInt32 >>> ((2 : Int32) &&& 31).toUInt32).toInt32) &&& (3 : Int32))), .val (.int (0 : Int32))] [(.int (own_eq (tf1_0 P2) (tf1_0 P0) (tf2_0 P3) (tf2_0 P1)))])) _
                  refine XS.iload X154.here hx rfl (hb hby at_188) rfl ?_
                  show Steps p.tables e below (T154.setTop (mkF m 190 #[.val (.long P0), .second, .val (.int P1), .val (.long P2), .second, .val (.int P3), .val (.int P4), .val (.long (tf1_0 P0)), .second, .val (.int (tf2_0 P1)), .val (.long (tf1_0 P2)), .second, .val (.int (tf2_0 P3)), .val (.ref b107), .val (.ref b113), .val (.int (((P4.toUInt32 >>> ((2 : Int32) &&& 31).toUInt32).toInt32) &&& (3 : Int32))), .val (.int (0 : Int32))] [(.int (0 : Int32)), (.int (own_eq (tf1_0 P2) (tf1_0 P0) (tf2_0 P3) (tf2_0 P1)))])) _
                  refine XS.icmpNo X154.here hx rfl (hb hby at_190) rfl (teq (show (own_eq (tf1_0 P2) (tf1_0 P0) (tf2_0 P3) (tf2_0 P1)) = (0 : Int32) from (by unfold own_eq; rw [if_neg (fun q => hc152 q.symm)]))).2 ?_
                  show Steps p.tables e below (T154.setTop (mkF m 193 #[.val (.long P0), .second, .val (.int P1), .val (.long P2), .second, .val (.int P3), .val (.int P4), .val (.long (tf1_0 P0)), .second, .val (.int (tf2_0 P1)), .val (.long (tf1_0 P2)), .second, .val (.int (tf2_0 P3)), .val (.ref b107), .val (.ref b113), .val (.int (((P4.toUInt32 >>> ((2 : Int32) &&& 31).toUInt32).toInt32) &&& (3 : Int32))), .val (.int (0 : Int32))] [])) _
                  refine XS.iconst X154.here hx rfl (hb hby at_193) ?_
                  show Steps p.tables e below (T154.setTop (mkF m 194 #[.val (.long P0), .second, .val (.int P1), .val (.long P2), .second, .val (.int P3), .val (.int P4), .val (.long (tf1_0 P0)), .second, .val (.int (tf2_0 P1)), .val (.long (tf1_0 P2)), .second, .val (.int (tf2_0 P3)), .val (.ref b107), .val (.ref b113), .val (.int (((P4.toUInt32 >>> ((2 : Int32) &&& 31).toUInt32).toInt32) &&& (3 : Int32))), .val (.int (0 : Int32))] [(.int (1 : Int32))])) _
                  refine XS.goto X154.here hx rfl (pc0 := 194) (pc' := 198) rfl (hb hby at_194) (by decide) (by decide) ?_
                  exact kt)
              obtain ⟨fs, hr, hrun, hended, hW, hsame⟩ := X154.leave (v := some (.int (1 : Int32))) (fun h => by rw [Bd.returns] at h; cases h)
              refine ⟨_, _, pre155 _ ?_, hrun, hended, _, _, rfl, ?_, ⟨_, rfl⟩, hW, hsame.mono (by decide) (by decide)⟩
              · show Steps p.tables e below (T154.setTop (mkF m 198 #[.val (.long P0), .second, .val (.int P1), .val (.long P2), .second, .val (.int P3), .val (.int P4), .val (.long (tf1_0 P0)), .second, .val (.int (tf2_0 P1)), .val (.long (tf1_0 P2)), .second, .val (.int (tf2_0 P3)), .val (.ref b107), .val (.ref b113), .val (.int (((P4.toUInt32 >>> ((2 : Int32) &&& 31).toUInt32).toInt32) &&& (3 : Int32))), .val (.int (0 : Int32))] [(.int (1 : Int32))])) _
                exact retN X154 hx (t := .boolean) Bd.returns (by simp) (hb hby at_198) hr
              · show Q0 Z P0 P1 P2 P3 P4 U0 h0 n0 _ T154.heap _
                rw [K154]
                exact ⟨rfl, N154⟩
    · obtain ⟨T156, h156, X156, e156, E156, A156, D156, -, st156⟩ := newO X104 hx hZ hown (hw _ (List.mem_of_getElem? (i := 8) rfl)) (hw _ (List.mem_of_getElem? (i := 9) rfl)) (hw _ (List.mem_of_getElem? (i := 10) rfl)) K104 (g := (mkF m 49 #[.val (.long P0), .second, .val (.int P1), .val (.long P2), .second, .val (.int P3), .val (.int P4), .val (.long (tf1_0 P0)), .second, .val (.int (tf2_0 P1)), .val (.long (tf1_0 P2)), .second, .val (.int (tf2_0 P1)), .unset, .unset, .unset, .unset] [])) rfl (hb hby at_49) (by decide) (by decide)
      obtain ⟨b156, q156⟩ : ∃ z, z = h0.size := ⟨_, rfl⟩
      rw [← q156] at A156 D156 st156
      have ne157 : U0 ≠ b156 := Nat.ne_of_lt (Nat.lt_of_lt_of_le pm1.lt (Nat.le_of_eq q156.symm))
      have g_b156 : n0 ≤ b156 := Nat.le_trans Z0 (Nat.le_of_eq q156.symm)
      have Z158 : n0 ≤ h156.size := Nat.le_trans Z0 E156.1
      have F156_18 : Fld Z h156 b156 "com/example/kept_reads/keptreads/wire/ReadGroup" "transaction" "J" (.long (0 : Int64)) := D156 (Or.inr (hw _ (List.mem_of_getElem? (i := 18) rfl))) (ty := .long) (by decide)
      have F156_20 : Fld Z h156 b156 "com/example/kept_reads/keptreads/wire/ReadGroup" "call" "I" (.int (0 : Int32)) := D156 (Or.inr (hw _ (List.mem_of_getElem? (i := 20) rfl))) (ty := .int) (by decide)
      have c159 : Sta Z h156 "java/lang/Long$LongCache" "cache" "[Ljava/lang/Long;" (.ref U0) := (pm0.ext E156)
      obtain ⟨_, _, ⟨T160, L160, k160, n160⟩, -, X160, ⟨Lc160, hQ160, l160, y160, z160⟩, st160⟩ := X156.specialBack hx (y := (⟨"com/example/kept_reads/keptreads/wire/ReadGroup", "<init>", "(JI)V"⟩ : MethodName)) rfl hown (mvT hZ (hw _ (List.mem_of_getElem? (i := 11) rfl))) (mvT hZ (hw _ (List.mem_of_getElem? (i := 12) rfl))) (mvT hZ (hw _ (List.mem_of_getElem? (i := 13) rfl))) (by decide) (backOf (W := 1) (rm3 l Z a0 hw [] b156 (tf1_0 P0) (tf2_0 P1) (0 : Int64) (0 : Int32) h156 n0 Z158 F156_18 F156_20 A156 (show ¬ ((tf1_0 P0) < (1 : Int64)) from (own_posL _)) (show ¬ ((tf2_0 P1) < (1 : Int32)) from (own_posI _)) g_b156) hZ (hw _ (List.mem_of_getElem? (i := 13) rfl)) (hw _ (List.mem_of_getElem? (i := 10) rfl)) (by decide) (by decide)) (g := (mkF m 57 #[.val (.long P0), .second, .val (.int P1), .val (.long P2), .second, .val (.int P3), .val (.int P4), .val (.long (tf1_0 P0)), .second, .val (.int (tf2_0 P1)), .val (.long (tf1_0 P2)), .second, .val (.int (tf2_0 P1)), .unset, .unset, .unset, .unset] [(.int (tf2_0 P1)), (.long (tf1_0 P0)), (.ref b156), (.ref b156)])) rfl (by rw [hml]; rfl) (Steps.refl _) (a := b156) (argsL := [(.long (tf1_0 P0)), (.int (tf2_0 P1))]) (rest := [(.ref b156)]) (lenOf pd_0_2 rfl) rfl (by show 2 * 0 + _ ≤ _; exact Nat.le_of_eq rfl) (hb hby at_57) (fun _ _ => ⟨rfl, e156, (by decide : 1 + 0 ≤ _), (by decide : 2 + 0 ≤ _)⟩)
      dsimp only [Pt.U, Pt.locs, Pt.cells, Pt.slots] at X160 l160 y160 z160 st160 hQ160
      subst l160 y160 z160
      obtain ⟨rfl, N160q, K160, p160_0, p160_1, p160_2⟩ := hQ160
      have N160 := Fr.app N104 N160q
      have Z161 : n0 ≤ T160.heap.size := Nat.le_trans Z158 K160.1
      have ss160_0 : Sta Z T160.heap "java/lang/Long$LongCache" "cache" "[Ljava/lang/Long;" (.ref U0) := own_sta_keep c159 K160 (allS (own_ns A156) all0)
      obtain ⟨T162, h162, X162, e162, E162, A162, D162, -, st162⟩ := newO X160 hx hZ hown (hw _ (List.mem_of_getElem? (i := 8) rfl)) (hw _ (List.mem_of_getElem? (i := 9) rfl)) (hw _ (List.mem_of_getElem? (i := 10) rfl)) rfl (g := (mkF m 62 #[.val (.long P0), .second, .val (.int P1), .val (.long P2), .second, .val (.int P3), .val (.int P4), .val (.long (tf1_0 P0)), .second, .val (.int (tf2_0 P1)), .val (.long (tf1_0 P2)), .second, .val (.int (tf2_0 P1)), .val (.ref b156), .unset, .unset, .unset] [])) rfl (hb hby at_62) (by decide) (by decide)
      obtain ⟨b162, q162⟩ : ∃ z, z = T160.heap.size := ⟨_, rfl⟩
      rw [← q162] at A162 D162 st162
      have c164 : own_Cac Z T160.heap "java/lang/Long" U0 := ((pm1.ext E156).keep K160 (ninS ne157 nin0))
      have ne163 : U0 ≠ b162 := Nat.ne_of_lt (Nat.lt_of_lt_of_le c164.lt (Nat.le_of_eq q162.symm))
      have ne165 : b156 ≠ b162 := Nat.ne_of_lt (Nat.lt_of_lt_of_le p160_0.lt (Nat.le_of_eq q162.symm))
      have g_b162 : n0 ≤ b162 := Nat.le_trans Z161 (Nat.le_of_eq q162.symm)
      have Z166 : n0 ≤ h162.size := Nat.le_trans Z161 E162.1
      have F162_18 : Fld Z h162 b162 "com/example/kept_reads/keptreads/wire/ReadGroup" "transaction" "J" (.long (0 : Int64)) := D162 (Or.inr (hw _ (List.mem_of_getElem? (i := 18) rfl))) (ty := .long) (by decide)
      have F162_20 : Fld Z h162 b162 "com/example/kept_reads/keptreads/wire/ReadGroup" "call" "I" (.int (0 : Int32)) := D162 (Or.inr (hw _ (List.mem_of_getElem? (i := 20) rfl))) (ty := .int) (by decide)
      have c167 : Sta Z h162 "java/lang/Long$LongCache" "cache" "[Ljava/lang/Long;" (.ref U0) := (ss160_0.ext E162)
      obtain ⟨_, _, ⟨T168, L168, k168, n168⟩, -, X168, ⟨Lc168, hQ168, l168, y168, z168⟩, st168⟩ := X162.specialBack hx (y := (⟨"com/example/kept_reads/keptreads/wire/ReadGroup", "<init>", "(JI)V"⟩ : MethodName)) rfl hown (mvT hZ (hw _ (List.mem_of_getElem? (i := 11) rfl))) (mvT hZ (hw _ (List.mem_of_getElem? (i := 12) rfl))) (mvT hZ (hw _ (List.mem_of_getElem? (i := 13) rfl))) (by decide) (backOf (W := 1) (rm3 l Z a0 hw [] b162 (tf1_0 P2) (tf2_0 P1) (0 : Int64) (0 : Int32) h162 n0 Z166 F162_18 F162_20 A162 (show ¬ ((tf1_0 P2) < (1 : Int64)) from (own_posL _)) (show ¬ ((tf2_0 P1) < (1 : Int32)) from (own_posI _)) g_b162) hZ (hw _ (List.mem_of_getElem? (i := 13) rfl)) (hw _ (List.mem_of_getElem? (i := 10) rfl)) (by decide) (by decide)) (g := (mkF m 70 #[.val (.long P0), .second, .val (.int P1), .val (.long P2), .second, .val (.int P3), .val (.int P4), .val (.long (tf1_0 P0)), .second, .val (.int (tf2_0 P1)), .val (.long (tf1_0 P2)), .second, .val (.int (tf2_0 P1)), .val (.ref b156), .unset, .unset, .unset] [(.int (tf2_0 P1)), (.long (tf1_0 P2)), (.ref b162), (.ref b162)])) rfl (by rw [hml]; rfl) (Steps.refl _) (a := b162) (argsL := [(.long (tf1_0 P2)), (.int (tf2_0 P1))]) (rest := [(.ref b162)]) (lenOf pd_0_2 rfl) rfl (by show 2 * 0 + _ ≤ _; exact Nat.le_of_eq rfl) (hb hby at_70) (fun _ _ => ⟨rfl, e162, (by decide : 2 + 0 ≤ _), (by decide : 4 + 0 ≤ _)⟩)
      dsimp only [Pt.U, Pt.locs, Pt.cells, Pt.slots] at X168 l168 y168 z168 st168 hQ168
      subst l168 y168 z168
      obtain ⟨rfl, N168q, K168, p168_0, p168_1, p168_2⟩ := hQ168
      have N168 := Fr.app N160 N168q
      have Z169 : n0 ≤ T168.heap.size := Nat.le_trans Z166 K168.1
      have ss168_0 : Sta Z T168.heap "java/lang/Long$LongCache" "cache" "[Ljava/lang/Long;" (.ref U0) := own_sta_keep c167 K168 (allS (own_ns A162) all0)
      have pre170 : ∀ t, Steps p.tables e below (T168.setTop (mkF m 86 #[.val (.long P0), .second, .val (.int P1), .val (.long P2), .second, .val (.int P3), .val (.int P4), .val (.long (tf1_0 P0)), .second, .val (.int (tf2_0 P1)), .val (.long (tf1_0 P2)), .second, .val (.int (tf2_0 P1)), .val (.ref b156), .val (.ref b162), .val (.int (((P4.toUInt32 >>> ((2 : Int32) &&& 31).toUInt32).toInt32) &&& (3 : Int32))), .unset] [(.int (1 : Int32)), (.int (((P4.toUInt32 >>> ((2 : Int32) &&& 31).toUInt32).toInt32) &&& (3 : Int32)))])) t → Steps p.tables e below (s₁.setTop (entryFrame m #[(.long P0), (.int P1), (.long P2), (.int P3), (.int P4)] maxLocals)) t := fun t kt => pre105 t (by
          show Steps p.tables e below (T104.setTop (mkF m 34 #[.val (.long P0), .second, .val (.int P1), .val (.long P2), .second, .val (.int P3), .val (.int P4), .val (.long (tf1_0 P0)), .second, .val (.int (tf2_0 P1)), .val (.long (tf1_0 P2)), .second, .unset, .unset, .unset, .unset, .unset] [(.int (P4 &&& (2 : Int32)))])) _
          refine XS.ifNo X104.here hx rfl (hb hby at_34) rfl ((if0 _ _).trans (feq hc34).1) ?_
          show Steps p.tables e below (T104.setTop (mkF m 37 #[.val (.long P0), .second, .val (.int P1), .val (.long P2), .second, .val (.int P3), .val (.int P4), .val (.long (tf1_0 P0)), .second, .val (.int (tf2_0 P1)), .val (.long (tf1_0 P2)), .second, .unset, .unset, .unset, .unset, .unset] [])) _
          refine XS.iload X104.here hx rfl (hb hby at_37) rfl ?_
          show Steps p.tables e below (T104.setTop (mkF m 39 #[.val (.long P0), .second, .val (.int P1), .val (.long P2), .second, .val (.int P3), .val (.int P4), .val (.long (tf1_0 P0)), .second, .val (.int (tf2_0 P1)), .val (.long (tf1_0 P2)), .second, .unset, .unset, .unset, .unset, .unset] [(.int (tf2_0 P1))])) _
          refine XS.goto X104.here hx rfl (pc0 := 39) (pc' := 47) rfl (hb hby at_39) (by decide) (by decide) ?_
          show Steps p.tables e below (T104.setTop (mkF m 47 #[.val (.long P0), .second, .val (.int P1), .val (.long P2), .second, .val (.int P3), .val (.int P4), .val (.long (tf1_0 P0)), .second, .val (.int (tf2_0 P1)), .val (.long (tf1_0 P2)), .second, .unset, .unset, .unset, .unset, .unset] [(.int (tf2_0 P1))])) _
          refine XS.istore X104.here hx rfl (hb hby at_47) rfl (l' := #[.val (.long P0), .second, .val (.int P1), .val (.long P2), .second, .val (.int P3), .val (.int P4), .val (.long (tf1_0 P0)), .second, .val (.int (tf2_0 P1)), .val (.long (tf1_0 P2)), .second, .val (.int (tf2_0 P1)), .unset, .unset, .unset, .unset]) rfl ?_
          show Steps p.tables e below (T104.setTop (mkF m 49 #[.val (.long P0), .second, .val (.int P1), .val (.long P2), .second, .val (.int P3), .val (.int P4), .val (.long (tf1_0 P0)), .second, .val (.int (tf2_0 P1)), .val (.long (tf1_0 P2)), .second, .val (.int (tf2_0 P1)), .unset, .unset, .unset, .unset] [])) _
          refine st156 _ ?_
          show Steps p.tables e below (T156.setTop (mkF m 52 #[.val (.long P0), .second, .val (.int P1), .val (.long P2), .second, .val (.int P3), .val (.int P4), .val (.long (tf1_0 P0)), .second, .val (.int (tf2_0 P1)), .val (.long (tf1_0 P2)), .second, .val (.int (tf2_0 P1)), .unset, .unset, .unset, .unset] [(.ref b156)])) _
          refine XS.dup X156.here hx rfl (hb hby at_52) rfl rfl ?_
          show Steps p.tables e below (T156.setTop (mkF m 53 #[.val (.long P0), .second, .val (.int P1), .val (.long P2), .second, .val (.int P3), .val (.int P4), .val (.long (tf1_0 P0)), .second, .val (.int (tf2_0 P1)), .val (.long (tf1_0 P2)), .second, .val (.int (tf2_0 P1)), .unset, .unset, .unset, .unset] [(.ref b156), (.ref b156)])) _
          refine XS.lload X156.here hx rfl (hb hby at_53) rfl ?_
          show Steps p.tables e below (T156.setTop (mkF m 55 #[.val (.long P0), .second, .val (.int P1), .val (.long P2), .second, .val (.int P3), .val (.int P4), .val (.long (tf1_0 P0)), .second, .val (.int (tf2_0 P1)), .val (.long (tf1_0 P2)), .second, .val (.int (tf2_0 P1)), .unset, .unset, .unset, .unset] [(.long (tf1_0 P0)), (.ref b156), (.ref b156)])) _
          refine XS.iload X156.here hx rfl (hb hby at_55) rfl ?_
          show Steps p.tables e below (T156.setTop (mkF m 57 #[.val (.long P0), .second, .val (.int P1), .val (.long P2), .second, .val (.int P3), .val (.int P4), .val (.long (tf1_0 P0)), .second, .val (.int (tf2_0 P1)), .val (.long (tf1_0 P2)), .second, .val (.int (tf2_0 P1)), .unset, .unset, .unset, .unset] [(.int (tf2_0 P1)), (.long (tf1_0 P0)), (.ref b156), (.ref b156)])) _
          refine st160.trans ?_
          show Steps p.tables e below (T160.setTop (mkF m 60 #[.val (.long P0), .second, .val (.int P1), .val (.long P2), .second, .val (.int P3), .val (.int P4), .val (.long (tf1_0 P0)), .second, .val (.int (tf2_0 P1)), .val (.long (tf1_0 P2)), .second, .val (.int (tf2_0 P1)), .unset, .unset, .unset, .unset] [(.ref b156)])) _
          refine XS.astore X160.here hx rfl (hb hby at_60) rfl rfl (l' := #[.val (.long P0), .second, .val (.int P1), .val (.long P2), .second, .val (.int P3), .val (.int P4), .val (.long (tf1_0 P0)), .second, .val (.int (tf2_0 P1)), .val (.long (tf1_0 P2)), .second, .val (.int (tf2_0 P1)), .val (.ref b156), .unset, .unset, .unset]) rfl ?_
          show Steps p.tables e below (T160.setTop (mkF m 62 #[.val (.long P0), .second, .val (.int P1), .val (.long P2), .second, .val (.int P3), .val (.int P4), .val (.long (tf1_0 P0)), .second, .val (.int (tf2_0 P1)), .val (.long (tf1_0 P2)), .second, .val (.int (tf2_0 P1)), .val (.ref b156), .unset, .unset, .unset] [])) _
          refine st162 _ ?_
          show Steps p.tables e below (T162.setTop (mkF m 65 #[.val (.long P0), .second, .val (.int P1), .val (.long P2), .second, .val (.int P3), .val (.int P4), .val (.long (tf1_0 P0)), .second, .val (.int (tf2_0 P1)), .val (.long (tf1_0 P2)), .second, .val (.int (tf2_0 P1)), .val (.ref b156), .unset, .unset, .unset] [(.ref b162)])) _
          refine XS.dup X162.here hx rfl (hb hby at_65) rfl rfl ?_
          show Steps p.tables e below (T162.setTop (mkF m 66 #[.val (.long P0), .second, .val (.int P1), .val (.long P2), .second, .val (.int P3), .val (.int P4), .val (.long (tf1_0 P0)), .second, .val (.int (tf2_0 P1)), .val (.long (tf1_0 P2)), .second, .val (.int (tf2_0 P1)), .val (.ref b156), .unset, .unset, .unset] [(.ref b162), (.ref b162)])) _
          refine XS.lload X162.here hx rfl (hb hby at_66) rfl ?_
          show Steps p.tables e below (T162.setTop (mkF m 68 #[.val (.long P0), .second, .val (.int P1), .val (.long P2), .second, .val (.int P3), .val (.int P4), .val (.long (tf1_0 P0)), .second, .val (.int (tf2_0 P1)), .val (.long (tf1_0 P2)), .second, .val (.int (tf2_0 P1)), .val (.ref b156), .unset, .unset, .unset] [(.long (tf1_0 P2)), (.ref b162), (.ref b162)])) _
          refine XS.iload X162.here hx rfl (hb hby at_68) rfl ?_
          show Steps p.tables e below (T162.setTop (mkF m 70 #[.val (.long P0), .second, .val (.int P1), .val (.long P2), .second, .val (.int P3), .val (.int P4), .val (.long (tf1_0 P0)), .second, .val (.int (tf2_0 P1)), .val (.long (tf1_0 P2)), .second, .val (.int (tf2_0 P1)), .val (.ref b156), .unset, .unset, .unset] [(.int (tf2_0 P1)), (.long (tf1_0 P2)), (.ref b162), (.ref b162)])) _
          refine st168.trans ?_
          show Steps p.tables e below (T168.setTop (mkF m 73 #[.val (.long P0), .second, .val (.int P1), .val (.long P2), .second, .val (.int P3), .val (.int P4), .val (.long (tf1_0 P0)), .second, .val (.int (tf2_0 P1)), .val (.long (tf1_0 P2)), .second, .val (.int (tf2_0 P1)), .val (.ref b156), .unset, .unset, .unset] [(.ref b162)])) _
          refine XS.astore X168.here hx rfl (hb hby at_73) rfl rfl (l' := #[.val (.long P0), .second, .val (.int P1), .val (.long P2), .second, .val (.int P3), .val (.int P4), .val (.long (tf1_0 P0)), .second, .val (.int (tf2_0 P1)), .val (.long (tf1_0 P2)), .second, .val (.int (tf2_0 P1)), .val (.ref b156), .val (.ref b162), .unset, .unset]) rfl ?_
          show Steps p.tables e below (T168.setTop (mkF m 75 #[.val (.long P0), .second, .val (.int P1), .val (.long P2), .second, .val (.int P3), .val (.int P4), .val (.long (tf1_0 P0)), .second, .val (.int (tf2_0 P1)), .val (.long (tf1_0 P2)), .second, .val (.int (tf2_0 P1)), .val (.ref b156), .val (.ref b162), .unset, .unset] [])) _
          refine XS.iload X168.here hx rfl (hb hby at_75) rfl ?_
          show Steps p.tables e below (T168.setTop (mkF m 77 #[.val (.long P0), .second, .val (.int P1), .val (.long P2), .second, .val (.int P3), .val (.int P4), .val (.long (tf1_0 P0)), .second, .val (.int (tf2_0 P1)), .val (.long (tf1_0 P2)), .second, .val (.int (tf2_0 P1)), .val (.ref b156), .val (.ref b162), .unset, .unset] [(.int P4)])) _
          refine XS.iconst X168.here hx rfl (hb hby at_77) ?_
          show Steps p.tables e below (T168.setTop (mkF m 78 #[.val (.long P0), .second, .val (.int P1), .val (.long P2), .second, .val (.int P3), .val (.int P4), .val (.long (tf1_0 P0)), .second, .val (.int (tf2_0 P1)), .val (.long (tf1_0 P2)), .second, .val (.int (tf2_0 P1)), .val (.ref b156), .val (.ref b162), .unset, .unset] [(.int (2 : Int32)), (.int P4)])) _
          refine XS.iushr X168.here hx rfl (hb hby at_78) rfl ?_
          show Steps p.tables e below (T168.setTop (mkF m 79 #[.val (.long P0), .second, .val (.int P1), .val (.long P2), .second, .val (.int P3), .val (.int P4), .val (.long (tf1_0 P0)), .second, .val (.int (tf2_0 P1)), .val (.long (tf1_0 P2)), .second, .val (.int (tf2_0 P1)), .val (.ref b156), .val (.ref b162), .unset, .unset] [(.int ((P4.toUInt32 >>> ((2 : Int32) &&& 31).toUInt32).toInt32))])) _
          refine XS.iconst X168.here hx rfl (hb hby at_79) ?_
          show Steps p.tables e below (T168.setTop (mkF m 80 #[.val (.long P0), .second, .val (.int P1), .val (.long P2), .second, .val (.int P3), .val (.int P4), .val (.long (tf1_0 P0)), .second, .val (.int (tf2_0 P1)), .val (.long (tf1_0 P2)), .second, .val (.int (tf2_0 P1)), .val (.ref b156), .val (.ref b162), .unset, .unset] [(.int (3 : Int32)), (.int ((P4.toUInt32 >>> ((2 : Int32) &&& 31).toUInt32).toInt32))])) _
          refine XS.iand X168.here hx rfl (hb hby at_80) rfl ?_
          show Steps p.tables e below (T168.setTop (mkF m 81 #[.val (.long P0), .second, .val (.int P1), .val (.long P2), .second, .val (.int P3), .val (.int P4), .val (.long (tf1_0 P0)), .second, .val (.int (tf2_0 P1)), .val (.long (tf1_0 P2)), .second, .val (.int (tf2_0 P1)), .val (.ref b156), .val (.ref b162), .unset, .unset] [(.int (((P4.toUInt32 >>> ((2 : Int32) &&& 31).toUInt32).toInt32) &&& (3 : Int32)))])) _
          refine XS.istore X168.here hx rfl (hb hby at_81) rfl (l' := #[.val (.long P0), .second, .val (.int P1), .val (.long P2), .second, .val (.int P3), .val (.int P4), .val (.long (tf1_0 P0)), .second, .val (.int (tf2_0 P1)), .val (.long (tf1_0 P2)), .second, .val (.int (tf2_0 P1)), .val (.ref b156), .val (.ref b162), .val (.int (((P4.toUInt32 >>> ((2 : Int32) &&& 31).toUInt32).toInt32) &&& (3 : Int32))), .unset]) rfl ?_
          show Steps p.tables e below (T168.setTop (mkF m 83 #[.val (.long P0), .second, .val (.int P1), .val (.long P2), .second, .val (.int P3), .val (.int P4), .val (.long (tf1_0 P0)), .second, .val (.int (tf2_0 P1)), .val (.long (tf1_0 P2)), .second, .val (.int (tf2_0 P1)), .val (.ref b156), .val (.ref b162), .val (.int (((P4.toUInt32 >>> ((2 : Int32) &&& 31).toUInt32).toInt32) &&& (3 : Int32))), .unset] [])) _
          refine XS.iload X168.here hx rfl (hb hby at_83) rfl ?_
          show Steps p.tables e below (T168.setTop (mkF m 85 #[.val (.long P0), .second, .val (.int P1), .val (.long P2), .second, .val (.int P3), .val (.int P4), .val (.long (tf1_0 P0)), .second, .val (.int (tf2_0 P1)), .val (.long (tf1_0 P2)), .second, .val (.int (tf2_0 P1)), .val (.ref b156), .val (.ref b162), .val (.int (((P4.toUInt32 >>> ((2 : Int32) &&& 31).toUInt32).toInt32) &&& (3 : Int32))), .unset] [(.int (((P4.toUInt32 >>> ((2 : Int32) &&& 31).toUInt32).toInt32) &&& (3 : Int32)))])) _
          refine XS.iconst X168.here hx rfl (hb hby at_85) ?_
          exact kt)
      by_cases hc86 : (((P4.toUInt32 >>> ((2 : Int32) &&& 31).toUInt32).toInt32) &&& (3 : Int32)) = (1 : Int32)
      · have c172 : Exa Z T168.heap b156 "com/example/kept_reads/keptreads/wire/ReadGroup" := ((p160_0.ext E162).keep K168)
        obtain ⟨cq171, kq171, q171a, q171b, q171c⟩ := isOf hZ rfl c172
        obtain ⟨_, _, ⟨T171, L171, k171, n171⟩, -, X171, ⟨Lc171, hQ171, l171, y171, z171⟩, st171⟩ := X168.virtualBack hx (y := (⟨"com/example/kept_reads/keptreads/wire/ReadGroup", "equals", "(Ljava/lang/Object;)Z"⟩ : MethodName)) (z := (⟨"com/example/kept_reads/keptreads/wire/ReadGroup", "equals", "(Ljava/lang/Object;)Z"⟩ : MethodName)) hown (mvT hZ (hw _ (List.mem_of_getElem? (i := 21) rfl))) (mvT hZ (hw _ (List.mem_of_getElem? (i := 22) rfl))) (notFace_of_selects (args := #[]) (mvT hZ (hw _ (List.mem_of_getElem? (i := 24) rfl)))) (mvT hZ (hw _ (List.mem_of_getElem? (i := 24) rfl))) (mvT hZ (hw _ (List.mem_of_getElem? (i := 23) rfl))) (by decide) (backOf (W := 0) (rmeqS l Z a0 hw [] b156 b156 T168.heap n0 Z169 (show b156 = b156 from rfl)) hZ (hw _ (List.mem_of_getElem? (i := 25) rfl)) (hw _ (List.mem_of_getElem? (i := 10) rfl)) (by decide) (by decide)) q171a q171c (g := (mkF m 93 #[.val (.long P0), .second, .val (.int P1), .val (.long P2), .second, .val (.int P3), .val (.int P4), .val (.long (tf1_0 P0)), .second, .val (.int (tf2_0 P1)), .val (.long (tf1_0 P2)), .second, .val (.int (tf2_0 P1)), .val (.ref b156), .val (.ref b162), .val (.int (((P4.toUInt32 >>> ((2 : Int32) &&& 31).toUInt32).toInt32) &&& (3 : Int32))), .unset] [(.ref b156), (.ref b156)])) rfl (by rw [hml]; rfl) (Steps.refl _) (argsL := [(.ref b156)]) (rest := []) (lenOf pd_0_3 rfl) rfl (by show 2 * 0 + _ ≤ _; exact Nat.le_of_eq rfl) (hb hby at_93) (fun _ _ => ⟨rfl, rfl, (by decide : 2 + 0 ≤ _), (by decide : 4 + 0 ≤ _)⟩)
        dsimp only [Pt.U, Pt.locs, Pt.cells, Pt.slots] at X171 l171 y171 z171 st171 hQ171
        subst l171 y171 z171
        obtain ⟨rfl, N171q, K171⟩ := hQ171
        have N171 := Fr.app N168 N171q
        have pre173 : ∀ t, Steps p.tables e below (T171.setTop (mkF m 96 #[.val (.long P0), .second, .val (.int P1), .val (.long P2), .second, .val (.int P3), .val (.int P4), .val (.long (tf1_0 P0)), .second, .val (.int (tf2_0 P1)), .val (.long (tf1_0 P2)), .second, .val (.int (tf2_0 P1)), .val (.ref b156), .val (.ref b162), .val (.int (((P4.toUInt32 >>> ((2 : Int32) &&& 31).toUInt32).toInt32) &&& (3 : Int32))), .unset] [(.int (1 : Int32))])) t → Steps p.tables e below (s₁.setTop (entryFrame m #[(.long P0), (.int P1), (.long P2), (.int P3), (.int P4)] maxLocals)) t := fun t kt => pre170 t (by
            show Steps p.tables e below (T168.setTop (mkF m 86 #[.val (.long P0), .second, .val (.int P1), .val (.long P2), .second, .val (.int P3), .val (.int P4), .val (.long (tf1_0 P0)), .second, .val (.int (tf2_0 P1)), .val (.long (tf1_0 P2)), .second, .val (.int (tf2_0 P1)), .val (.ref b156), .val (.ref b162), .val (.int (((P4.toUInt32 >>> ((2 : Int32) &&& 31).toUInt32).toInt32) &&& (3 : Int32))), .unset] [(.int (1 : Int32)), (.int (((P4.toUInt32 >>> ((2 : Int32) &&& 31).toUInt32).toInt32) &&& (3 : Int32)))])) _
            refine XS.icmpNo X168.here hx rfl (hb hby at_86) rfl (teq hc86).2 ?_
            show Steps p.tables e below (T168.setTop (mkF m 89 #[.val (.long P0), .second, .val (.int P1), .val (.long P2), .second, .val (.int P3), .val (.int P4), .val (.long (tf1_0 P0)), .second, .val (.int (tf2_0 P1)), .val (.long (tf1_0 P2)), .second, .val (.int (tf2_0 P1)), .val (.ref b156), .val (.ref b162), .val (.int (((P4.toUInt32 >>> ((2 : Int32) &&& 31).toUInt32).toInt32) &&& (3 : Int32))), .unset] [])) _
            refine XS.aload X168.here hx rfl (hb hby at_89) rfl rfl ?_
            show Steps p.tables e below (T168.setTop (mkF m 91 #[.val (.long P0), .second, .val (.int P1), .val (.long P2), .second, .val (.int P3), .val (.int P4), .val (.long (tf1_0 P0)), .second, .val (.int (tf2_0 P1)), .val (.long (tf1_0 P2)), .second, .val (.int (tf2_0 P1)), .val (.ref b156), .val (.ref b162), .val (.int (((P4.toUInt32 >>> ((2 : Int32) &&& 31).toUInt32).toInt32) &&& (3 : Int32))), .unset] [(.ref b156)])) _
            refine XS.aload X168.here hx rfl (hb hby at_91) rfl rfl ?_
            show Steps p.tables e below (T168.setTop (mkF m 93 #[.val (.long P0), .second, .val (.int P1), .val (.long P2), .second, .val (.int P3), .val (.int P4), .val (.long (tf1_0 P0)), .second, .val (.int (tf2_0 P1)), .val (.long (tf1_0 P2)), .second, .val (.int (tf2_0 P1)), .val (.ref b156), .val (.ref b162), .val (.int (((P4.toUInt32 >>> ((2 : Int32) &&& 31).toUInt32).toInt32) &&& (3 : Int32))), .unset] [(.ref b156), (.ref b156)])) _
            refine st171.trans ?_
            exact kt)
        obtain ⟨fs, hr, hrun, hended, hW, hsame⟩ := X171.leave (v := some (.int (1 : Int32))) (fun h => by rw [Bd.returns] at h; cases h)
        refine ⟨_, _, pre173 _ ?_, hrun, hended, _, _, rfl, ?_, ⟨_, rfl⟩, hW, hsame.mono (by decide) (by decide)⟩
        · show Steps p.tables e below (T171.setTop (mkF m 96 #[.val (.long P0), .second, .val (.int P1), .val (.long P2), .second, .val (.int P3), .val (.int P4), .val (.long (tf1_0 P0)), .second, .val (.int (tf2_0 P1)), .val (.long (tf1_0 P2)), .second, .val (.int (tf2_0 P1)), .val (.ref b156), .val (.ref b162), .val (.int (((P4.toUInt32 >>> ((2 : Int32) &&& 31).toUInt32).toInt32) &&& (3 : Int32))), .unset] [(.int (1 : Int32))])) _
          exact retN X171 hx (t := .boolean) Bd.returns (by simp) (hb hby at_96) hr
        · show Q0 Z P0 P1 P2 P3 P4 U0 h0 n0 _ T171.heap _
          rw [K171]
          exact ⟨rfl, N171⟩
      · have pre174 : ∀ t, Steps p.tables e below (T168.setTop (mkF m 100 #[.val (.long P0), .second, .val (.int P1), .val (.long P2), .second, .val (.int P3), .val (.int P4), .val (.long (tf1_0 P0)), .second, .val (.int (tf2_0 P1)), .val (.long (tf1_0 P2)), .second, .val (.int (tf2_0 P1)), .val (.ref b156), .val (.ref b162), .val (.int (((P4.toUInt32 >>> ((2 : Int32) &&& 31).toUInt32).toInt32) &&& (3 : Int32))), .unset] [(.int (2 : Int32)), (.int (((P4.toUInt32 >>> ((2 : Int32) &&& 31).toUInt32).toInt32) &&& (3 : Int32)))])) t → Steps p.tables e below (s₁.setTop (entryFrame m #[(.long P0), (.int P1), (.long P2), (.int P3), (.int P4)] maxLocals)) t := fun t kt => pre170 t (by
            show Steps p.tables e below (T168.setTop (mkF m 86 #[.val (.long P0), .second, .val (.int P1), .val (.long P2), .second, .val (.int P3), .val (.int P4), .val (.long (tf1_0 P0)), .second, .val (.int (tf2_0 P1)), .val (.long (tf1_0 P2)), .second, .val (.int (tf2_0 P1)), .val (.ref b156), .val (.ref b162), .val (.int (((P4.toUInt32 >>> ((2 : Int32) &&& 31).toUInt32).toInt32) &&& (3 : Int32))), .unset] [(.int (1 : Int32)), (.int (((P4.toUInt32 >>> ((2 : Int32) &&& 31).toUInt32).toInt32) &&& (3 : Int32)))])) _
            refine XS.icmpYes X168.here hx rfl (pc0 := 86) (pc' := 97) rfl (hb hby at_86) rfl (feq hc86).2 (by decide) (by decide) ?_
            show Steps p.tables e below (T168.setTop (mkF m 97 #[.val (.long P0), .second, .val (.int P1), .val (.long P2), .second, .val (.int P3), .val (.int P4), .val (.long (tf1_0 P0)), .second, .val (.int (tf2_0 P1)), .val (.long (tf1_0 P2)), .second, .val (.int (tf2_0 P1)), .val (.ref b156), .val (.ref b162), .val (.int (((P4.toUInt32 >>> ((2 : Int32) &&& 31).toUInt32).toInt32) &&& (3 : Int32))), .unset] [])) _
            refine XS.iload X168.here hx rfl (hb hby at_97) rfl ?_
            show Steps p.tables e below (T168.setTop (mkF m 99 #[.val (.long P0), .second, .val (.int P1), .val (.long P2), .second, .val (.int P3), .val (.int P4), .val (.long (tf1_0 P0)), .second, .val (.int (tf2_0 P1)), .val (.long (tf1_0 P2)), .second, .val (.int (tf2_0 P1)), .val (.ref b156), .val (.ref b162), .val (.int (((P4.toUInt32 >>> ((2 : Int32) &&& 31).toUInt32).toInt32) &&& (3 : Int32))), .unset] [(.int (((P4.toUInt32 >>> ((2 : Int32) &&& 31).toUInt32).toInt32) &&& (3 : Int32)))])) _
            refine XS.iconst X168.here hx rfl (hb hby at_99) ?_
            exact kt)
        by_cases hc100 : (((P4.toUInt32 >>> ((2 : Int32) &&& 31).toUInt32).toInt32) &&& (3 : Int32)) = (2 : Int32)
        · have c176 : Exa Z T168.heap b156 "com/example/kept_reads/keptreads/wire/ReadGroup" := ((p160_0.ext E162).keep K168)
          obtain ⟨cq175, kq175, q175a, q175b, q175c⟩ := isOf hZ rfl c176
          obtain ⟨_, _, ⟨T175, L175, k175, n175⟩, -, X175, ⟨Lc175, hQ175, l175, y175, z175⟩, st175⟩ := X168.virtualBack hx (y := (⟨"com/example/kept_reads/keptreads/wire/ReadGroup", "equals", "(Ljava/lang/Object;)Z"⟩ : MethodName)) (z := (⟨"com/example/kept_reads/keptreads/wire/ReadGroup", "equals", "(Ljava/lang/Object;)Z"⟩ : MethodName)) hown (mvT hZ (hw _ (List.mem_of_getElem? (i := 21) rfl))) (mvT hZ (hw _ (List.mem_of_getElem? (i := 22) rfl))) (notFace_of_selects (args := #[]) (mvT hZ (hw _ (List.mem_of_getElem? (i := 24) rfl)))) (mvT hZ (hw _ (List.mem_of_getElem? (i := 24) rfl))) (mvT hZ (hw _ (List.mem_of_getElem? (i := 23) rfl))) (by decide) (backOf (W := 0) (rmeqN l Z a0 hw [] b156 T168.heap n0 Z169 ) hZ (hw _ (List.mem_of_getElem? (i := 25) rfl)) (hw _ (List.mem_of_getElem? (i := 10) rfl)) (by decide) (by decide)) q175a q175c (g := (mkF m 106 #[.val (.long P0), .second, .val (.int P1), .val (.long P2), .second, .val (.int P3), .val (.int P4), .val (.long (tf1_0 P0)), .second, .val (.int (tf2_0 P1)), .val (.long (tf1_0 P2)), .second, .val (.int (tf2_0 P1)), .val (.ref b156), .val (.ref b162), .val (.int (((P4.toUInt32 >>> ((2 : Int32) &&& 31).toUInt32).toInt32) &&& (3 : Int32))), .unset] [.null, (.ref b156)])) rfl (by rw [hml]; rfl) (Steps.refl _) (argsL := [.null]) (rest := []) (lenOf pd_0_3 rfl) rfl (by show 2 * 0 + _ ≤ _; exact Nat.le_of_eq rfl) (hb hby at_106) (fun _ _ => ⟨rfl, rfl, (by decide : 2 + 0 ≤ _), (by decide : 4 + 0 ≤ _)⟩)
          dsimp only [Pt.U, Pt.locs, Pt.cells, Pt.slots] at X175 l175 y175 z175 st175 hQ175
          subst l175 y175 z175
          obtain ⟨rfl, N175q, K175⟩ := hQ175
          have N175 := Fr.app N168 N175q
          have pre177 : ∀ t, Steps p.tables e below (T175.setTop (mkF m 117 #[.val (.long P0), .second, .val (.int P1), .val (.long P2), .second, .val (.int P3), .val (.int P4), .val (.long (tf1_0 P0)), .second, .val (.int (tf2_0 P1)), .val (.long (tf1_0 P2)), .second, .val (.int (tf2_0 P1)), .val (.ref b156), .val (.ref b162), .val (.int (((P4.toUInt32 >>> ((2 : Int32) &&& 31).toUInt32).toInt32) &&& (3 : Int32))), .unset] [(.int (1 : Int32))])) t → Steps p.tables e below (s₁.setTop (entryFrame m #[(.long P0), (.int P1), (.long P2), (.int P3), (.int P4)] maxLocals)) t := fun t kt => pre174 t (by
              show Steps p.tables e below (T168.setTop (mkF m 100 #[.val (.long P0), .second, .val (.int P1), .val (.long P2), .second, .val (.int P3), .val (.int P4), .val (.long (tf1_0 P0)), .second, .val (.int (tf2_0 P1)), .val (.long (tf1_0 P2)), .second, .val (.int (tf2_0 P1)), .val (.ref b156), .val (.ref b162), .val (.int (((P4.toUInt32 >>> ((2 : Int32) &&& 31).toUInt32).toInt32) &&& (3 : Int32))), .unset] [(.int (2 : Int32)), (.int (((P4.toUInt32 >>> ((2 : Int32) &&& 31).toUInt32).toInt32) &&& (3 : Int32)))])) _
              refine XS.icmpNo X168.here hx rfl (hb hby at_100) rfl (teq hc100).2 ?_
              show Steps p.tables e below (T168.setTop (mkF m 103 #[.val (.long P0), .second, .val (.int P1), .val (.long P2), .second, .val (.int P3), .val (.int P4), .val (.long (tf1_0 P0)), .second, .val (.int (tf2_0 P1)), .val (.long (tf1_0 P2)), .second, .val (.int (tf2_0 P1)), .val (.ref b156), .val (.ref b162), .val (.int (((P4.toUInt32 >>> ((2 : Int32) &&& 31).toUInt32).toInt32) &&& (3 : Int32))), .unset] [])) _
              refine XS.aload X168.here hx rfl (hb hby at_103) rfl rfl ?_
              show Steps p.tables e below (T168.setTop (mkF m 105 #[.val (.long P0), .second, .val (.int P1), .val (.long P2), .second, .val (.int P3), .val (.int P4), .val (.long (tf1_0 P0)), .second, .val (.int (tf2_0 P1)), .val (.long (tf1_0 P2)), .second, .val (.int (tf2_0 P1)), .val (.ref b156), .val (.ref b162), .val (.int (((P4.toUInt32 >>> ((2 : Int32) &&& 31).toUInt32).toInt32) &&& (3 : Int32))), .unset] [(.ref b156)])) _
              refine XS.aconstNull X168.here hx rfl (hb hby at_105) ?_
              show Steps p.tables e below (T168.setTop (mkF m 106 #[.val (.long P0), .second, .val (.int P1), .val (.long P2), .second, .val (.int P3), .val (.int P4), .val (.long (tf1_0 P0)), .second, .val (.int (tf2_0 P1)), .val (.long (tf1_0 P2)), .second, .val (.int (tf2_0 P1)), .val (.ref b156), .val (.ref b162), .val (.int (((P4.toUInt32 >>> ((2 : Int32) &&& 31).toUInt32).toInt32) &&& (3 : Int32))), .unset] [.null, (.ref b156)])) _
              refine st175.trans ?_
              show Steps p.tables e below (T175.setTop (mkF m 109 #[.val (.long P0), .second, .val (.int P1), .val (.long P2), .second, .val (.int P3), .val (.int P4), .val (.long (tf1_0 P0)), .second, .val (.int (tf2_0 P1)), .val (.long (tf1_0 P2)), .second, .val (.int (tf2_0 P1)), .val (.ref b156), .val (.ref b162), .val (.int (((P4.toUInt32 >>> ((2 : Int32) &&& 31).toUInt32).toInt32) &&& (3 : Int32))), .unset] [(.int (0 : Int32))])) _
              refine XS.ifNo X175.here hx rfl (hb hby at_109) rfl ((if0 _ _).trans (teq (show (0 : Int32) = (0 : Int32) from (by decide))).2) ?_
              show Steps p.tables e below (T175.setTop (mkF m 112 #[.val (.long P0), .second, .val (.int P1), .val (.long P2), .second, .val (.int P3), .val (.int P4), .val (.long (tf1_0 P0)), .second, .val (.int (tf2_0 P1)), .val (.long (tf1_0 P2)), .second, .val (.int (tf2_0 P1)), .val (.ref b156), .val (.ref b162), .val (.int (((P4.toUInt32 >>> ((2 : Int32) &&& 31).toUInt32).toInt32) &&& (3 : Int32))), .unset] [])) _
              refine XS.iconst X175.here hx rfl (hb hby at_112) ?_
              show Steps p.tables e below (T175.setTop (mkF m 113 #[.val (.long P0), .second, .val (.int P1), .val (.long P2), .second, .val (.int P3), .val (.int P4), .val (.long (tf1_0 P0)), .second, .val (.int (tf2_0 P1)), .val (.long (tf1_0 P2)), .second, .val (.int (tf2_0 P1)), .val (.ref b156), .val (.ref b162), .val (.int (((P4.toUInt32 >>> ((2 : Int32) &&& 31).toUInt32).toInt32) &&& (3 : Int32))), .unset] [(.int (1 : Int32))])) _
              refine XS.goto X175.here hx rfl (pc0 := 113) (pc' := 117) rfl (hb hby at_113) (by decide) (by decide) ?_
              exact kt)
          obtain ⟨fs, hr, hrun, hended, hW, hsame⟩ := X175.leave (v := some (.int (1 : Int32))) (fun h => by rw [Bd.returns] at h; cases h)
          refine ⟨_, _, pre177 _ ?_, hrun, hended, _, _, rfl, ?_, ⟨_, rfl⟩, hW, hsame.mono (by decide) (by decide)⟩
          · show Steps p.tables e below (T175.setTop (mkF m 117 #[.val (.long P0), .second, .val (.int P1), .val (.long P2), .second, .val (.int P3), .val (.int P4), .val (.long (tf1_0 P0)), .second, .val (.int (tf2_0 P1)), .val (.long (tf1_0 P2)), .second, .val (.int (tf2_0 P1)), .val (.ref b156), .val (.ref b162), .val (.int (((P4.toUInt32 >>> ((2 : Int32) &&& 31).toUInt32).toInt32) &&& (3 : Int32))), .unset] [(.int (1 : Int32))])) _
            exact retN X175 hx (t := .boolean) Bd.returns (by simp) (hb hby at_117) hr
          · show Q0 Z P0 P1 P2 P3 P4 U0 h0 n0 _ T175.heap _
            rw [K175]
            exact ⟨rfl, N175⟩
        · have pre178 : ∀ t, Steps p.tables e below (T168.setTop (mkF m 121 #[.val (.long P0), .second, .val (.int P1), .val (.long P2), .second, .val (.int P3), .val (.int P4), .val (.long (tf1_0 P0)), .second, .val (.int (tf2_0 P1)), .val (.long (tf1_0 P2)), .second, .val (.int (tf2_0 P1)), .val (.ref b156), .val (.ref b162), .val (.int (((P4.toUInt32 >>> ((2 : Int32) &&& 31).toUInt32).toInt32) &&& (3 : Int32))), .unset] [(.int (3 : Int32)), (.int (((P4.toUInt32 >>> ((2 : Int32) &&& 31).toUInt32).toInt32) &&& (3 : Int32)))])) t → Steps p.tables e below (s₁.setTop (entryFrame m #[(.long P0), (.int P1), (.long P2), (.int P3), (.int P4)] maxLocals)) t := fun t kt => pre174 t (by
              show Steps p.tables e below (T168.setTop (mkF m 100 #[.val (.long P0), .second, .val (.int P1), .val (.long P2), .second, .val (.int P3), .val (.int P4), .val (.long (tf1_0 P0)), .second, .val (.int (tf2_0 P1)), .val (.long (tf1_0 P2)), .second, .val (.int (tf2_0 P1)), .val (.ref b156), .val (.ref b162), .val (.int (((P4.toUInt32 >>> ((2 : Int32) &&& 31).toUInt32).toInt32) &&& (3 : Int32))), .unset] [(.int (2 : Int32)), (.int (((P4.toUInt32 >>> ((2 : Int32) &&& 31).toUInt32).toInt32) &&& (3 : Int32)))])) _
              refine XS.icmpYes X168.here hx rfl (pc0 := 100) (pc' := 118) rfl (hb hby at_100) rfl (feq hc100).2 (by decide) (by decide) ?_
              show Steps p.tables e below (T168.setTop (mkF m 118 #[.val (.long P0), .second, .val (.int P1), .val (.long P2), .second, .val (.int P3), .val (.int P4), .val (.long (tf1_0 P0)), .second, .val (.int (tf2_0 P1)), .val (.long (tf1_0 P2)), .second, .val (.int (tf2_0 P1)), .val (.ref b156), .val (.ref b162), .val (.int (((P4.toUInt32 >>> ((2 : Int32) &&& 31).toUInt32).toInt32) &&& (3 : Int32))), .unset] [])) _
              refine XS.iload X168.here hx rfl (hb hby at_118) rfl ?_
              show Steps p.tables e below (T168.setTop (mkF m 120 #[.val (.long P0), .second, .val (.int P1), .val (.long P2), .second, .val (.int P3), .val (.int P4), .val (.long (tf1_0 P0)), .second, .val (.int (tf2_0 P1)), .val (.long (tf1_0 P2)), .second, .val (.int (tf2_0 P1)), .val (.ref b156), .val (.ref b162), .val (.int (((P4.toUInt32 >>> ((2 : Int32) &&& 31).toUInt32).toInt32) &&& (3 : Int32))), .unset] [(.int (((P4.toUInt32 >>> ((2 : Int32) &&& 31).toUInt32).toInt32) &&& (3 : Int32)))])) _
              refine XS.iconst X168.here hx rfl (hb hby at_120) ?_
              exact kt)
          by_cases hc121 : (((P4.toUInt32 >>> ((2 : Int32) &&& 31).toUInt32).toInt32) &&& (3 : Int32)) = (3 : Int32)
          · have c179 : own_Cac Z T168.heap "java/lang/Long" U0 := ((c164.ext E162).keep K168 (ninS ne163 nin0))
            obtain ⟨_, _, ⟨T180, L180, k180, n180⟩, -, X180, ⟨Lc180, hQ180, l180, y180, z180⟩, st180⟩ := Jvm.LawKit.callS X168 hx (y := (⟨"java/lang/Long", "valueOf", "(J)Ljava/lang/Long;"⟩ : MethodName)) hown (mvT hZ (hw _ (List.mem_of_getElem? (i := 28) rfl))) (mvT hZ (hw _ (List.mem_of_getElem? (i := 29) rfl))) (mvT hZ (hw _ (List.mem_of_getElem? (i := 30) rfl))) (mvT hZ (hw _ (List.mem_of_getElem? (i := 31) rfl))) (by decide) (backOf (W := 0) (rm6 l Z a0 hw [] (tf1_0 P0) U0 T168.heap n0 Z169 ss168_0 c179) hZ (hw _ (List.mem_of_getElem? (i := 31) rfl)) (hw _ (List.mem_of_getElem? (i := 30) rfl)) (by decide) (by decide)) (g := (mkF m 126 #[.val (.long P0), .second, .val (.int P1), .val (.long P2), .second, .val (.int P3), .val (.int P4), .val (.long (tf1_0 P0)), .second, .val (.int (tf2_0 P1)), .val (.long (tf1_0 P2)), .second, .val (.int (tf2_0 P1)), .val (.ref b156), .val (.ref b162), .val (.int (((P4.toUInt32 >>> ((2 : Int32) &&& 31).toUInt32).toInt32) &&& (3 : Int32))), .unset] [(.long (tf1_0 P0))])) rfl (by rw [hml]; rfl) (argsL := [(.long (tf1_0 P0))]) (rest := []) (lenOf pd_0_4 rfl) rfl (by show 2 * 0 + _ ≤ _; exact Nat.le_of_eq rfl) (hb hby at_126) (fun _ _ => ⟨rfl, rfl, (by decide : 2 + 1 ≤ _), (by decide : 4 + 1 ≤ _)⟩)
            dsimp only [Pt.U, Pt.locs, Pt.cells, Pt.slots] at X180 l180 y180 z180 st180 hQ180
            subst l180 y180 z180
            obtain ⟨x180_R0, rfl, N180q, K180, p180_0⟩ := hQ180
            have N180 := Fr.app N168 N180q
            have Z181 : n0 ≤ T180.heap.size := Nat.le_trans Z169 K180.1
            have ss180_0 : Sta Z T180.heap "java/lang/Long$LongCache" "cache" "[Ljava/lang/Long;" (.ref U0) := own_sta_keep ss168_0 K180 all0
            have c182 : Exa Z T180.heap b156 "com/example/kept_reads/keptreads/wire/ReadGroup" := (((p160_0.ext E162).keep K168).keep K180)
            obtain ⟨cq183, kq183, q183a, q183b, q183c⟩ := isOf hZ rfl c182
            obtain ⟨_, _, ⟨T183, L183, k183, n183⟩, -, X183, ⟨Lc183, hQ183, l183, y183, z183⟩, st183⟩ := X180.virtualBack hx (y := (⟨"com/example/kept_reads/keptreads/wire/ReadGroup", "equals", "(Ljava/lang/Object;)Z"⟩ : MethodName)) (z := (⟨"com/example/kept_reads/keptreads/wire/ReadGroup", "equals", "(Ljava/lang/Object;)Z"⟩ : MethodName)) hown (mvT hZ (hw _ (List.mem_of_getElem? (i := 21) rfl))) (mvT hZ (hw _ (List.mem_of_getElem? (i := 22) rfl))) (notFace_of_selects (args := #[]) (mvT hZ (hw _ (List.mem_of_getElem? (i := 24) rfl)))) (mvT hZ (hw _ (List.mem_of_getElem? (i := 24) rfl))) (mvT hZ (hw _ (List.mem_of_getElem? (i := 23) rfl))) (by decide) (backOf (W := 0) (rmeqL l Z a0 hw [] b156 x180_R0 T180.heap n0 Z181 p180_0 (show b156 ≠ x180_R0 from (ne_exa c182 p180_0 (by decide)))) hZ (hw _ (List.mem_of_getElem? (i := 25) rfl)) (hw _ (List.mem_of_getElem? (i := 10) rfl)) (by decide) (by decide)) q183a q183c (g := (mkF m 135 #[.val (.long P0), .second, .val (.int P1), .val (.long P2), .second, .val (.int P3), .val (.int P4), .val (.long (tf1_0 P0)), .second, .val (.int (tf2_0 P1)), .val (.long (tf1_0 P2)), .second, .val (.int (tf2_0 P1)), .val (.ref b156), .val (.ref b162), .val (.int (((P4.toUInt32 >>> ((2 : Int32) &&& 31).toUInt32).toInt32) &&& (3 : Int32))), .val (.ref x180_R0)] [(.ref x180_R0), (.ref b156)])) rfl (by rw [hml]; rfl) (Steps.refl _) (argsL := [(.ref x180_R0)]) (rest := []) (lenOf pd_0_3 rfl) rfl (by show 2 * 0 + _ ≤ _; exact Nat.le_of_eq rfl) (hb hby at_135) (fun _ _ => ⟨rfl, rfl, (by decide : 3 + 0 ≤ _), (by decide : 5 + 0 ≤ _)⟩)
            dsimp only [Pt.U, Pt.locs, Pt.cells, Pt.slots] at X183 l183 y183 z183 st183 hQ183
            subst l183 y183 z183
            obtain ⟨rfl, N183q, K183⟩ := hQ183
            have N183 := Fr.app N180 N183q
            have pre184 : ∀ t, Steps p.tables e below (T183.setTop (mkF m 146 #[.val (.long P0), .second, .val (.int P1), .val (.long P2), .second, .val (.int P3), .val (.int P4), .val (.long (tf1_0 P0)), .second, .val (.int (tf2_0 P1)), .val (.long (tf1_0 P2)), .second, .val (.int (tf2_0 P1)), .val (.ref b156), .val (.ref b162), .val (.int (((P4.toUInt32 >>> ((2 : Int32) &&& 31).toUInt32).toInt32) &&& (3 : Int32))), .val (.ref x180_R0)] [(.int (1 : Int32))])) t → Steps p.tables e below (s₁.setTop (entryFrame m #[(.long P0), (.int P1), (.long P2), (.int P3), (.int P4)] maxLocals)) t := fun t kt => pre178 t (by
                show Steps p.tables e below (T168.setTop (mkF m 121 #[.val (.long P0), .second, .val (.int P1), .val (.long P2), .second, .val (.int P3), .val (.int P4), .val (.long (tf1_0 P0)), .second, .val (.int (tf2_0 P1)), .val (.long (tf1_0 P2)), .second, .val (.int (tf2_0 P1)), .val (.ref b156), .val (.ref b162), .val (.int (((P4.toUInt32 >>> ((2 : Int32) &&& 31).toUInt32).toInt32) &&& (3 : Int32))), .unset] [(.int (3 : Int32)), (.int (((P4.toUInt32 >>> ((2 : Int32) &&& 31).toUInt32).toInt32) &&& (3 : Int32)))])) _
                refine XS.icmpNo X168.here hx rfl (hb hby at_121) rfl (teq hc121).2 ?_
                show Steps p.tables e below (T168.setTop (mkF m 124 #[.val (.long P0), .second, .val (.int P1), .val (.long P2), .second, .val (.int P3), .val (.int P4), .val (.long (tf1_0 P0)), .second, .val (.int (tf2_0 P1)), .val (.long (tf1_0 P2)), .second, .val (.int (tf2_0 P1)), .val (.ref b156), .val (.ref b162), .val (.int (((P4.toUInt32 >>> ((2 : Int32) &&& 31).toUInt32).toInt32) &&& (3 : Int32))), .unset] [])) _
                refine XS.lload X168.here hx rfl (hb hby at_124) rfl ?_
                show Steps p.tables e below (T168.setTop (mkF m 126 #[.val (.long P0), .second, .val (.int P1), .val (.long P2), .second, .val (.int P3), .val (.int P4), .val (.long (tf1_0 P0)), .second, .val (.int (tf2_0 P1)), .val (.long (tf1_0 P2)), .second, .val (.int (tf2_0 P1)), .val (.ref b156), .val (.ref b162), .val (.int (((P4.toUInt32 >>> ((2 : Int32) &&& 31).toUInt32).toInt32) &&& (3 : Int32))), .unset] [(.long (tf1_0 P0))])) _
                refine st180 _ ?_
                show Steps p.tables e below (T180.setTop (mkF m 129 #[.val (.long P0), .second, .val (.int P1), .val (.long P2), .second, .val (.int P3), .val (.int P4), .val (.long (tf1_0 P0)), .second, .val (.int (tf2_0 P1)), .val (.long (tf1_0 P2)), .second, .val (.int (tf2_0 P1)), .val (.ref b156), .val (.ref b162), .val (.int (((P4.toUInt32 >>> ((2 : Int32) &&& 31).toUInt32).toInt32) &&& (3 : Int32))), .unset] [(.ref x180_R0)])) _
                refine XS.astore X180.here hx rfl (hb hby at_129) rfl rfl (l' := #[.val (.long P0), .second, .val (.int P1), .val (.long P2), .second, .val (.int P3), .val (.int P4), .val (.long (tf1_0 P0)), .second, .val (.int (tf2_0 P1)), .val (.long (tf1_0 P2)), .second, .val (.int (tf2_0 P1)), .val (.ref b156), .val (.ref b162), .val (.int (((P4.toUInt32 >>> ((2 : Int32) &&& 31).toUInt32).toInt32) &&& (3 : Int32))), .val (.ref x180_R0)]) rfl ?_
                show Steps p.tables e below (T180.setTop (mkF m 131 #[.val (.long P0), .second, .val (.int P1), .val (.long P2), .second, .val (.int P3), .val (.int P4), .val (.long (tf1_0 P0)), .second, .val (.int (tf2_0 P1)), .val (.long (tf1_0 P2)), .second, .val (.int (tf2_0 P1)), .val (.ref b156), .val (.ref b162), .val (.int (((P4.toUInt32 >>> ((2 : Int32) &&& 31).toUInt32).toInt32) &&& (3 : Int32))), .val (.ref x180_R0)] [])) _
                refine XS.aload X180.here hx rfl (hb hby at_131) rfl rfl ?_
                show Steps p.tables e below (T180.setTop (mkF m 133 #[.val (.long P0), .second, .val (.int P1), .val (.long P2), .second, .val (.int P3), .val (.int P4), .val (.long (tf1_0 P0)), .second, .val (.int (tf2_0 P1)), .val (.long (tf1_0 P2)), .second, .val (.int (tf2_0 P1)), .val (.ref b156), .val (.ref b162), .val (.int (((P4.toUInt32 >>> ((2 : Int32) &&& 31).toUInt32).toInt32) &&& (3 : Int32))), .val (.ref x180_R0)] [(.ref b156)])) _
                refine XS.aload X180.here hx rfl (hb hby at_133) rfl rfl ?_
                show Steps p.tables e below (T180.setTop (mkF m 135 #[.val (.long P0), .second, .val (.int P1), .val (.long P2), .second, .val (.int P3), .val (.int P4), .val (.long (tf1_0 P0)), .second, .val (.int (tf2_0 P1)), .val (.long (tf1_0 P2)), .second, .val (.int (tf2_0 P1)), .val (.ref b156), .val (.ref b162), .val (.int (((P4.toUInt32 >>> ((2 : Int32) &&& 31).toUInt32).toInt32) &&& (3 : Int32))), .val (.ref x180_R0)] [(.ref x180_R0), (.ref b156)])) _
                refine st183.trans ?_
                show Steps p.tables e below (T183.setTop (mkF m 138 #[.val (.long P0), .second, .val (.int P1), .val (.long P2), .second, .val (.int P3), .val (.int P4), .val (.long (tf1_0 P0)), .second, .val (.int (tf2_0 P1)), .val (.long (tf1_0 P2)), .second, .val (.int (tf2_0 P1)), .val (.ref b156), .val (.ref b162), .val (.int (((P4.toUInt32 >>> ((2 : Int32) &&& 31).toUInt32).toInt32) &&& (3 : Int32))), .val (.ref x180_R0)] [(.int (0 : Int32))])) _
                refine XS.ifNo X183.here hx rfl (hb hby at_138) rfl ((if0 _ _).trans (teq (show (0 : Int32) = (0 : Int32) from (by decide))).2) ?_
                show Steps p.tables e below (T183.setTop (mkF m 141 #[.val (.long P0), .second, .val (.int P1), .val (.long P2), .second, .val (.int P3), .val (.int P4), .val (.long (tf1_0 P0)), .second, .val (.int (tf2_0 P1)), .val (.long (tf1_0 P2)), .second, .val (.int (tf2_0 P1)), .val (.ref b156), .val (.ref b162), .val (.int (((P4.toUInt32 >>> ((2 : Int32) &&& 31).toUInt32).toInt32) &&& (3 : Int32))), .val (.ref x180_R0)] [])) _
                refine XS.iconst X183.here hx rfl (hb hby at_141) ?_
                show Steps p.tables e below (T183.setTop (mkF m 142 #[.val (.long P0), .second, .val (.int P1), .val (.long P2), .second, .val (.int P3), .val (.int P4), .val (.long (tf1_0 P0)), .second, .val (.int (tf2_0 P1)), .val (.long (tf1_0 P2)), .second, .val (.int (tf2_0 P1)), .val (.ref b156), .val (.ref b162), .val (.int (((P4.toUInt32 >>> ((2 : Int32) &&& 31).toUInt32).toInt32) &&& (3 : Int32))), .val (.ref x180_R0)] [(.int (1 : Int32))])) _
                refine XS.goto X183.here hx rfl (pc0 := 142) (pc' := 146) rfl (hb hby at_142) (by decide) (by decide) ?_
                exact kt)
            obtain ⟨fs, hr, hrun, hended, hW, hsame⟩ := X183.leave (v := some (.int (1 : Int32))) (fun h => by rw [Bd.returns] at h; cases h)
            refine ⟨_, _, pre184 _ ?_, hrun, hended, _, _, rfl, ?_, ⟨_, rfl⟩, hW, hsame.mono (by decide) (by decide)⟩
            · show Steps p.tables e below (T183.setTop (mkF m 146 #[.val (.long P0), .second, .val (.int P1), .val (.long P2), .second, .val (.int P3), .val (.int P4), .val (.long (tf1_0 P0)), .second, .val (.int (tf2_0 P1)), .val (.long (tf1_0 P2)), .second, .val (.int (tf2_0 P1)), .val (.ref b156), .val (.ref b162), .val (.int (((P4.toUInt32 >>> ((2 : Int32) &&& 31).toUInt32).toInt32) &&& (3 : Int32))), .val (.ref x180_R0)] [(.int (1 : Int32))])) _
              exact retN X183 hx (t := .boolean) Bd.returns (by simp) (hb hby at_146) hr
            · show Q0 Z P0 P1 P2 P3 P4 U0 h0 n0 _ T183.heap _
              rw [K183]
              exact ⟨rfl, N183⟩
          · have pre185 : ∀ t, Steps p.tables e below (T168.setTop (mkF m 152 #[.val (.long P0), .second, .val (.int P1), .val (.long P2), .second, .val (.int P3), .val (.int P4), .val (.long (tf1_0 P0)), .second, .val (.int (tf2_0 P1)), .val (.long (tf1_0 P2)), .second, .val (.int (tf2_0 P1)), .val (.ref b156), .val (.ref b162), .val (.int (((P4.toUInt32 >>> ((2 : Int32) &&& 31).toUInt32).toInt32) &&& (3 : Int32))), .unset] [(.int (lcmpW (tf1_0 P0) (tf1_0 P2)))])) t → Steps p.tables e below (s₁.setTop (entryFrame m #[(.long P0), (.int P1), (.long P2), (.int P3), (.int P4)] maxLocals)) t := fun t kt => pre178 t (by
                show Steps p.tables e below (T168.setTop (mkF m 121 #[.val (.long P0), .second, .val (.int P1), .val (.long P2), .second, .val (.int P3), .val (.int P4), .val (.long (tf1_0 P0)), .second, .val (.int (tf2_0 P1)), .val (.long (tf1_0 P2)), .second, .val (.int (tf2_0 P1)), .val (.ref b156), .val (.ref b162), .val (.int (((P4.toUInt32 >>> ((2 : Int32) &&& 31).toUInt32).toInt32) &&& (3 : Int32))), .unset] [(.int (3 : Int32)), (.int (((P4.toUInt32 >>> ((2 : Int32) &&& 31).toUInt32).toInt32) &&& (3 : Int32)))])) _
                refine XS.icmpYes X168.here hx rfl (pc0 := 121) (pc' := 147) rfl (hb hby at_121) rfl (feq hc121).2 (by decide) (by decide) ?_
                show Steps p.tables e below (T168.setTop (mkF m 147 #[.val (.long P0), .second, .val (.int P1), .val (.long P2), .second, .val (.int P3), .val (.int P4), .val (.long (tf1_0 P0)), .second, .val (.int (tf2_0 P1)), .val (.long (tf1_0 P2)), .second, .val (.int (tf2_0 P1)), .val (.ref b156), .val (.ref b162), .val (.int (((P4.toUInt32 >>> ((2 : Int32) &&& 31).toUInt32).toInt32) &&& (3 : Int32))), .unset] [])) _
                refine XS.lload X168.here hx rfl (hb hby at_147) rfl ?_
                show Steps p.tables e below (T168.setTop (mkF m 149 #[.val (.long P0), .second, .val (.int P1), .val (.long P2), .second, .val (.int P3), .val (.int P4), .val (.long (tf1_0 P0)), .second, .val (.int (tf2_0 P1)), .val (.long (tf1_0 P2)), .second, .val (.int (tf2_0 P1)), .val (.ref b156), .val (.ref b162), .val (.int (((P4.toUInt32 >>> ((2 : Int32) &&& 31).toUInt32).toInt32) &&& (3 : Int32))), .unset] [(.long (tf1_0 P0))])) _
                refine XS.lload X168.here hx rfl (hb hby at_149) rfl ?_
                show Steps p.tables e below (T168.setTop (mkF m 151 #[.val (.long P0), .second, .val (.int P1), .val (.long P2), .second, .val (.int P3), .val (.int P4), .val (.long (tf1_0 P0)), .second, .val (.int (tf2_0 P1)), .val (.long (tf1_0 P2)), .second, .val (.int (tf2_0 P1)), .val (.ref b156), .val (.ref b162), .val (.int (((P4.toUInt32 >>> ((2 : Int32) &&& 31).toUInt32).toInt32) &&& (3 : Int32))), .unset] [(.long (tf1_0 P2)), (.long (tf1_0 P0))])) _
                refine XS.lcmp X168.here hx rfl (hb hby at_151) rfl ?_
                exact kt)
            by_cases hc152 : (tf1_0 P0) = (tf1_0 P2)
            · have c186 : Fld Z T168.heap b156 "com/example/kept_reads/keptreads/wire/ReadGroup" "transaction" "J" (.long (tf1_0 P0)) := ((p160_1.ext E162).keep K168 (ninS ne165 nin0))
              have c187 : Fld Z T168.heap b156 "com/example/kept_reads/keptreads/wire/ReadGroup" "call" "I" (.int (tf2_0 P1)) := ((p160_2.ext E162).keep K168 (ninS ne165 nin0))
              have c189 : Exa Z T168.heap b156 "com/example/kept_reads/keptreads/wire/ReadGroup" := ((p160_0.ext E162).keep K168)
              obtain ⟨cq188, kq188, q188a, q188b, q188c⟩ := isOf hZ rfl c189
              obtain ⟨_, _, ⟨T188, L188, k188, n188⟩, -, X188, ⟨Lc188, hQ188, l188, y188, z188⟩, st188⟩ := X168.virtualBack hx (y := (⟨"com/example/kept_reads/keptreads/wire/ReadGroup", "equals", "(Ljava/lang/Object;)Z"⟩ : MethodName)) (z := (⟨"com/example/kept_reads/keptreads/wire/ReadGroup", "equals", "(Ljava/lang/Object;)Z"⟩ : MethodName)) hown (mvT hZ (hw _ (List.mem_of_getElem? (i := 21) rfl))) (mvT hZ (hw _ (List.mem_of_getElem? (i := 22) rfl))) (notFace_of_selects (args := #[]) (mvT hZ (hw _ (List.mem_of_getElem? (i := 24) rfl)))) (mvT hZ (hw _ (List.mem_of_getElem? (i := 24) rfl))) (mvT hZ (hw _ (List.mem_of_getElem? (i := 23) rfl))) (by decide) (backOf (W := 0) (rmeqR l Z a0 hw [] b156 b162 (tf1_0 P0) (tf2_0 P1) (tf1_0 P2) (tf2_0 P1) T168.heap n0 Z169 c186 c187 p168_1 p168_2 p168_0 (show b156 ≠ b162 from ne165)) hZ (hw _ (List.mem_of_getElem? (i := 25) rfl)) (hw _ (List.mem_of_getElem? (i := 10) rfl)) (by decide) (by decide)) q188a q188c (g := (mkF m 173 #[.val (.long P0), .second, .val (.int P1), .val (.long P2), .second, .val (.int P3), .val (.int P4), .val (.long (tf1_0 P0)), .second, .val (.int (tf2_0 P1)), .val (.long (tf1_0 P2)), .second, .val (.int (tf2_0 P1)), .val (.ref b156), .val (.ref b162), .val (.int (((P4.toUInt32 >>> ((2 : Int32) &&& 31).toUInt32).toInt32) &&& (3 : Int32))), .val (.int (1 : Int32))] [(.ref b162), (.ref b156)])) rfl (by rw [hml]; rfl) (Steps.refl _) (argsL := [(.ref b162)]) (rest := []) (lenOf pd_0_3 rfl) rfl (by show 2 * 0 + _ ≤ _; exact Nat.le_of_eq rfl) (hb hby at_173) (fun _ _ => ⟨rfl, rfl, (by decide : 2 + 0 ≤ _), (by decide : 4 + 0 ≤ _)⟩)
              dsimp only [Pt.U, Pt.locs, Pt.cells, Pt.slots] at X188 l188 y188 z188 st188 hQ188
              subst l188 y188 z188
              obtain ⟨rfl, N188q, K188⟩ := hQ188
              have N188 := Fr.app N168 N188q
              obtain ⟨cq190, kq190, q190a, q190b, q190c⟩ := isOf hZ K188 p168_0
              obtain ⟨_, _, ⟨T190, L190, k190, n190⟩, -, X190, ⟨Lc190, hQ190, l190, y190, z190⟩, st190⟩ := X188.virtualBack hx (y := (⟨"com/example/kept_reads/keptreads/wire/ReadGroup", "equals", "(Ljava/lang/Object;)Z"⟩ : MethodName)) (z := (⟨"com/example/kept_reads/keptreads/wire/ReadGroup", "equals", "(Ljava/lang/Object;)Z"⟩ : MethodName)) hown (mvT hZ (hw _ (List.mem_of_getElem? (i := 21) rfl))) (mvT hZ (hw _ (List.mem_of_getElem? (i := 22) rfl))) (notFace_of_selects (args := #[]) (mvT hZ (hw _ (List.mem_of_getElem? (i := 24) rfl)))) (mvT hZ (hw _ (List.mem_of_getElem? (i := 24) rfl))) (mvT hZ (hw _ (List.mem_of_getElem? (i := 23) rfl))) (by decide) (backOf (W := 0) (rmeqR l Z a0 hw [] b162 b156 (tf1_0 P2) (tf2_0 P1) (tf1_0 P0) (tf2_0 P1) T168.heap n0 Z169 p168_1 p168_2 c186 c187 c189 (show b162 ≠ b156 from (Ne.symm ne165))) hZ (hw _ (List.mem_of_getElem? (i := 25) rfl)) (hw _ (List.mem_of_getElem? (i := 10) rfl)) (by decide) (by decide)) q190a q190c (g := (mkF m 185 #[.val (.long P0), .second, .val (.int P1), .val (.long P2), .second, .val (.int P3), .val (.int P4), .val (.long (tf1_0 P0)), .second, .val (.int (tf2_0 P1)), .val (.long (tf1_0 P2)), .second, .val (.int (tf2_0 P1)), .val (.ref b156), .val (.ref b162), .val (.int (((P4.toUInt32 >>> ((2 : Int32) &&& 31).toUInt32).toInt32) &&& (3 : Int32))), .val (.int (1 : Int32))] [(.ref b156), (.ref b162)])) rfl (by rw [hml]; rfl) (Steps.refl _) (argsL := [(.ref b156)]) (rest := []) (lenOf pd_0_3 rfl) rfl (by show 2 * 0 + _ ≤ _; exact Nat.le_of_eq rfl) (hb hby at_185) (fun _ _ => ⟨rfl, K188, (by decide : 2 + 0 ≤ _), (by decide : 4 + 0 ≤ _)⟩)
              dsimp only [Pt.U, Pt.locs, Pt.cells, Pt.slots] at X190 l190 y190 z190 st190 hQ190
              subst l190 y190 z190
              obtain ⟨rfl, N190q, K190⟩ := hQ190
              have N190 := Fr.app N188 N190q
              have pre191 : ∀ t, Steps p.tables e below (T190.setTop (mkF m 198 #[.val (.long P0), .second, .val (.int P1), .val (.long P2), .second, .val (.int P3), .val (.int P4), .val (.long (tf1_0 P0)), .second, .val (.int (tf2_0 P1)), .val (.long (tf1_0 P2)), .second, .val (.int (tf2_0 P1)), .val (.ref b156), .val (.ref b162), .val (.int (((P4.toUInt32 >>> ((2 : Int32) &&& 31).toUInt32).toInt32) &&& (3 : Int32))), .val (.int (1 : Int32))] [(.int (1 : Int32))])) t → Steps p.tables e below (s₁.setTop (entryFrame m #[(.long P0), (.int P1), (.long P2), (.int P3), (.int P4)] maxLocals)) t := fun t kt => pre185 t (by
                  show Steps p.tables e below (T168.setTop (mkF m 152 #[.val (.long P0), .second, .val (.int P1), .val (.long P2), .second, .val (.int P3), .val (.int P4), .val (.long (tf1_0 P0)), .second, .val (.int (tf2_0 P1)), .val (.long (tf1_0 P2)), .second, .val (.int (tf2_0 P1)), .val (.ref b156), .val (.ref b162), .val (.int (((P4.toUInt32 >>> ((2 : Int32) &&& 31).toUInt32).toInt32) &&& (3 : Int32))), .unset] [(.int (lcmpW (tf1_0 P0) (tf1_0 P2)))])) _
                  refine XS.ifNo X168.here hx rfl (hb hby at_152) rfl ((if0 _ _).trans (teq ((lw_eq (tf1_0 P0) (tf1_0 P2)).mpr hc152)).2) ?_
                  show Steps p.tables e below (T168.setTop (mkF m 155 #[.val (.long P0), .second, .val (.int P1), .val (.long P2), .second, .val (.int P3), .val (.int P4), .val (.long (tf1_0 P0)), .second, .val (.int (tf2_0 P1)), .val (.long (tf1_0 P2)), .second, .val (.int (tf2_0 P1)), .val (.ref b156), .val (.ref b162), .val (.int (((P4.toUInt32 >>> ((2 : Int32) &&& 31).toUInt32).toInt32) &&& (3 : Int32))), .unset] [])) _
                  refine XS.iload X168.here hx rfl (hb hby at_155) rfl ?_
                  show Steps p.tables e below (T168.setTop (mkF m 157 #[.val (.long P0), .second, .val (.int P1), .val (.long P2), .second, .val (.int P3), .val (.int P4), .val (.long (tf1_0 P0)), .second, .val (.int (tf2_0 P1)), .val (.long (tf1_0 P2)), .second, .val (.int (tf2_0 P1)), .val (.ref b156), .val (.ref b162), .val (.int (((P4.toUInt32 >>> ((2 : Int32) &&& 31).toUInt32).toInt32) &&& (3 : Int32))), .unset] [(.int (tf2_0 P1))])) _
                  refine XS.iload X168.here hx rfl (hb hby at_157) rfl ?_
                  show Steps p.tables e below (T168.setTop (mkF m 159 #[.val (.long P0), .second, .val (.int P1), .val (.long P2), .second, .val (.int P3), .val (.int P4), .val (.long (tf1_0 P0)), .second, .val (.int (tf2_0 P1)), .val (.long (tf1_0 P2)), .second, .val (.int (tf2_0 P1)), .val (.ref b156), .val (.ref b162), .val (.int (((P4.toUInt32 >>> ((2 : Int32) &&& 31).toUInt32).toInt32) &&& (3 : Int32))), .unset] [(.int (tf2_0 P1)), (.int (tf2_0 P1))])) _
                  refine XS.icmpNo X168.here hx rfl (hb hby at_159) rfl (teq (show (tf2_0 P1) = (tf2_0 P1) from rfl)).2 ?_
                  show Steps p.tables e below (T168.setTop (mkF m 162 #[.val (.long P0), .second, .val (.int P1), .val (.long P2), .second, .val (.int P3), .val (.int P4), .val (.long (tf1_0 P0)), .second, .val (.int (tf2_0 P1)), .val (.long (tf1_0 P2)), .second, .val (.int (tf2_0 P1)), .val (.ref b156), .val (.ref b162), .val (.int (((P4.toUInt32 >>> ((2 : Int32) &&& 31).toUInt32).toInt32) &&& (3 : Int32))), .unset] [])) _
                  refine XS.iconst X168.here hx rfl (hb hby at_162) ?_
                  show Steps p.tables e below (T168.setTop (mkF m 163 #[.val (.long P0), .second, .val (.int P1), .val (.long P2), .second, .val (.int P3), .val (.int P4), .val (.long (tf1_0 P0)), .second, .val (.int (tf2_0 P1)), .val (.long (tf1_0 P2)), .second, .val (.int (tf2_0 P1)), .val (.ref b156), .val (.ref b162), .val (.int (((P4.toUInt32 >>> ((2 : Int32) &&& 31).toUInt32).toInt32) &&& (3 : Int32))), .unset] [(.int (1 : Int32))])) _
                  refine XS.goto X168.here hx rfl (pc0 := 163) (pc' := 167) rfl (hb hby at_163) (by decide) (by decide) ?_
                  show Steps p.tables e below (T168.setTop (mkF m 167 #[.val (.long P0), .second, .val (.int P1), .val (.long P2), .second, .val (.int P3), .val (.int P4), .val (.long (tf1_0 P0)), .second, .val (.int (tf2_0 P1)), .val (.long (tf1_0 P2)), .second, .val (.int (tf2_0 P1)), .val (.ref b156), .val (.ref b162), .val (.int (((P4.toUInt32 >>> ((2 : Int32) &&& 31).toUInt32).toInt32) &&& (3 : Int32))), .unset] [(.int (1 : Int32))])) _
                  refine XS.istore X168.here hx rfl (hb hby at_167) rfl (l' := #[.val (.long P0), .second, .val (.int P1), .val (.long P2), .second, .val (.int P3), .val (.int P4), .val (.long (tf1_0 P0)), .second, .val (.int (tf2_0 P1)), .val (.long (tf1_0 P2)), .second, .val (.int (tf2_0 P1)), .val (.ref b156), .val (.ref b162), .val (.int (((P4.toUInt32 >>> ((2 : Int32) &&& 31).toUInt32).toInt32) &&& (3 : Int32))), .val (.int (1 : Int32))]) rfl ?_
                  show Steps p.tables e below (T168.setTop (mkF m 169 #[.val (.long P0), .second, .val (.int P1), .val (.long P2), .second, .val (.int P3), .val (.int P4), .val (.long (tf1_0 P0)), .second, .val (.int (tf2_0 P1)), .val (.long (tf1_0 P2)), .second, .val (.int (tf2_0 P1)), .val (.ref b156), .val (.ref b162), .val (.int (((P4.toUInt32 >>> ((2 : Int32) &&& 31).toUInt32).toInt32) &&& (3 : Int32))), .val (.int (1 : Int32))] [])) _
                  refine XS.aload X168.here hx rfl (hb hby at_169) rfl rfl ?_
                  show Steps p.tables e below (T168.setTop (mkF m 171 #[.val (.long P0), .second, .val (.int P1), .val (.long P2), .second, .val (.int P3), .val (.int P4), .val (.long (tf1_0 P0)), .second, .val (.int (tf2_0 P1)), .val (.long (tf1_0 P2)), .second, .val (.int (tf2_0 P1)), .val (.ref b156), .val (.ref b162), .val (.int (((P4.toUInt32 >>> ((2 : Int32) &&& 31).toUInt32).toInt32) &&& (3 : Int32))), .val (.int (1 : Int32))] [(.ref b156)])) _
                  refine XS.aload X168.here hx rfl (hb hby at_171) rfl rfl ?_
                  show Steps p.tables e below (T168.setTop (mkF m 173 #[.val (.long P0), .second, .val (.int P1), .val (.long P2), .second, .val (.int P3), .val (.int P4), .val (.long (tf1_0 P0)), .second, .val (.int (tf2_0 P1)), .val (.long (tf1_0 P2)), .second, .val (.int (tf2_0 P1)), .val (.ref b156), .val (.ref b162), .val (.int (((P4.toUInt32 >>> ((2 : Int32) &&& 31).toUInt32).toInt32) &&& (3 : Int32))), .val (.int (1 : Int32))] [(.ref b162), (.ref b156)])) _
                  refine st188.trans ?_
                  show Steps p.tables e below (T188.setTop (mkF m 176 #[.val (.long P0), .second, .val (.int P1), .val (.long P2), .second, .val (.int P3), .val (.int P4), .val (.long (tf1_0 P0)), .second, .val (.int (tf2_0 P1)), .val (.long (tf1_0 P2)), .second, .val (.int (tf2_0 P1)), .val (.ref b156), .val (.ref b162), .val (.int (((P4.toUInt32 >>> ((2 : Int32) &&& 31).toUInt32).toInt32) &&& (3 : Int32))), .val (.int (1 : Int32))] [(.int (own_eq (tf1_0 P0) (tf1_0 P2) (tf2_0 P1) (tf2_0 P1)))])) _
                  refine XS.iload X188.here hx rfl (hb hby at_176) rfl ?_
                  show Steps p.tables e below (T188.setTop (mkF m 178 #[.val (.long P0), .second, .val (.int P1), .val (.long P2), .second, .val (.int P3), .val (.int P4), .val (.long (tf1_0 P0)), .second, .val (.int (tf2_0 P1)), .val (.long (tf1_0 P2)), .second, .val (.int (tf2_0 P1)), .val (.ref b156), .val (.ref b162), .val (.int (((P4.toUInt32 >>> ((2 : Int32) &&& 31).toUInt32).toInt32) &&& (3 : Int32))), .val (.int (1 : Int32))] [(.int (1 : Int32)), (.int (own_eq (tf1_0 P0) (tf1_0 P2) (tf2_0 P1) (tf2_0 P1)))])) _
                  refine XS.icmpNo X188.here hx rfl (hb hby at_178) rfl (teq (show (own_eq (tf1_0 P0) (tf1_0 P2) (tf2_0 P1) (tf2_0 P1)) = (1 : Int32) from (by unfold own_eq; rw [if_pos hc152, if_pos rfl]))).2 ?_
                  show Steps p.tables e below (T188.setTop (mkF m 181 #[.val (.long P0), .second, .val (.int P1), .val (.long P2), .second, .val (.int P3), .val (.int P4), .val (.long (tf1_0 P0)), .second, .val (.int (tf2_0 P1)), .val (.long (tf1_0 P2)), .second, .val (.int (tf2_0 P1)), .val (.ref b156), .val (.ref b162), .val (.int (((P4.toUInt32 >>> ((2 : Int32) &&& 31).toUInt32).toInt32) &&& (3 : Int32))), .val (.int (1 : Int32))] [])) _
                  refine XS.aload X188.here hx rfl (hb hby at_181) rfl rfl ?_
                  show Steps p.tables e below (T188.setTop (mkF m 183 #[.val (.long P0), .second, .val (.int P1), .val (.long P2), .second, .val (.int P3), .val (.int P4), .val (.long (tf1_0 P0)), .second, .val (.int (tf2_0 P1)), .val (.long (tf1_0 P2)), .second, .val (.int (tf2_0 P1)), .val (.ref b156), .val (.ref b162), .val (.int (((P4.toUInt32 >>> ((2 : Int32) &&& 31).toUInt32).toInt32) &&& (3 : Int32))), .val (.int (1 : Int32))] [(.ref b162)])) _
                  refine XS.aload X188.here hx rfl (hb hby at_183) rfl rfl ?_
                  show Steps p.tables e below (T188.setTop (mkF m 185 #[.val (.long P0), .second, .val (.int P1), .val (.long P2), .second, .val (.int P3), .val (.int P4), .val (.long (tf1_0 P0)), .second, .val (.int (tf2_0 P1)), .val (.long (tf1_0 P2)), .second, .val (.int (tf2_0 P1)), .val (.ref b156), .val (.ref b162), .val (.int (((P4.toUInt32 >>> ((2 : Int32) &&& 31).toUInt32).toInt32) &&& (3 : Int32))), .val (.int (1 : Int32))] [(.ref b156), (.ref b162)])) _
                  refine st190.trans ?_
                  show Steps p.tables e below (T190.setTop (mkF m 188 #[.val (.long P0), .second, .val (.int P1), .val (.long P2), .second, .val (.int P3), .val (.int P4), .val (.long (tf1_0 P0)), .second, .val (.int (tf2_0 P1)), .val (.long (tf1_0 P2)), .second, .val (.int (tf2_0 P1)), .val (.ref b156), .val (.ref b162), .val (.int (((P4.toUInt32 >>> ((2 : Int32) &&& 31).toUInt32).toInt32) &&& (3 : Int32))), .val (.int (1 : Int32))] [(.int (own_eq (tf1_0 P2) (tf1_0 P0) (tf2_0 P1) (tf2_0 P1)))])) _
                  refine XS.iload X190.here hx rfl (hb hby at_188) rfl ?_
                  show Steps p.tables e below (T190.setTop (mkF m 190 #[.val (.long P0), .second, .val (.int P1), .val (.long P2), .second, .val (.int P3), .val (.int P4), .val (.long (tf1_0 P0)), .second, .val (.int (tf2_0 P1)), .val (.long (tf1_0 P2)), .second, .val (.int (tf2_0 P1)), .val (.ref b156), .val (.ref b162), .val (.int (((P4.toUInt32 >>> ((2 : Int32) &&& 31).toUInt32).toInt32) &&& (3 : Int32))), .val (.int (1 : Int32))] [(.int (1 : Int32)), (.int (own_eq (tf1_0 P2) (tf1_0 P0) (tf2_0 P1) (tf2_0 P1)))])) _
                  refine XS.icmpNo X190.here hx rfl (hb hby at_190) rfl (teq (show (own_eq (tf1_0 P2) (tf1_0 P0) (tf2_0 P1) (tf2_0 P1)) = (1 : Int32) from (by unfold own_eq; rw [if_pos hc152.symm, if_pos rfl]))).2 ?_
                  show Steps p.tables e below (T190.setTop (mkF m 193 #[.val (.long P0), .second, .val (.int P1), .val (.long P2), .second, .val (.int P3), .val (.int P4), .val (.long (tf1_0 P0)), .second, .val (.int (tf2_0 P1)), .val (.long (tf1_0 P2)), .second, .val (.int (tf2_0 P1)), .val (.ref b156), .val (.ref b162), .val (.int (((P4.toUInt32 >>> ((2 : Int32) &&& 31).toUInt32).toInt32) &&& (3 : Int32))), .val (.int (1 : Int32))] [])) _
                  refine XS.iconst X190.here hx rfl (hb hby at_193) ?_
                  show Steps p.tables e below (T190.setTop (mkF m 194 #[.val (.long P0), .second, .val (.int P1), .val (.long P2), .second, .val (.int P3), .val (.int P4), .val (.long (tf1_0 P0)), .second, .val (.int (tf2_0 P1)), .val (.long (tf1_0 P2)), .second, .val (.int (tf2_0 P1)), .val (.ref b156), .val (.ref b162), .val (.int (((P4.toUInt32 >>> ((2 : Int32) &&& 31).toUInt32).toInt32) &&& (3 : Int32))), .val (.int (1 : Int32))] [(.int (1 : Int32))])) _
                  refine XS.goto X190.here hx rfl (pc0 := 194) (pc' := 198) rfl (hb hby at_194) (by decide) (by decide) ?_
                  exact kt)
              obtain ⟨fs, hr, hrun, hended, hW, hsame⟩ := X190.leave (v := some (.int (1 : Int32))) (fun h => by rw [Bd.returns] at h; cases h)
              refine ⟨_, _, pre191 _ ?_, hrun, hended, _, _, rfl, ?_, ⟨_, rfl⟩, hW, hsame.mono (by decide) (by decide)⟩
              · show Steps p.tables e below (T190.setTop (mkF m 198 #[.val (.long P0), .second, .val (.int P1), .val (.long P2), .second, .val (.int P3), .val (.int P4), .val (.long (tf1_0 P0)), .second, .val (.int (tf2_0 P1)), .val (.long (tf1_0 P2)), .second, .val (.int (tf2_0 P1)), .val (.ref b156), .val (.ref b162), .val (.int (((P4.toUInt32 >>> ((2 : Int32) &&& 31).toUInt32).toInt32) &&& (3 : Int32))), .val (.int (1 : Int32))] [(.int (1 : Int32))])) _
                exact retN X190 hx (t := .boolean) Bd.returns (by simp) (hb hby at_198) hr
              · show Q0 Z P0 P1 P2 P3 P4 U0 h0 n0 _ T190.heap _
                rw [K190]
                exact ⟨rfl, N190⟩
            · have c192 : Fld Z T168.heap b156 "com/example/kept_reads/keptreads/wire/ReadGroup" "transaction" "J" (.long (tf1_0 P0)) := ((p160_1.ext E162).keep K168 (ninS ne165 nin0))
              have c193 : Fld Z T168.heap b156 "com/example/kept_reads/keptreads/wire/ReadGroup" "call" "I" (.int (tf2_0 P1)) := ((p160_2.ext E162).keep K168 (ninS ne165 nin0))
              have c195 : Exa Z T168.heap b156 "com/example/kept_reads/keptreads/wire/ReadGroup" := ((p160_0.ext E162).keep K168)
              obtain ⟨cq194, kq194, q194a, q194b, q194c⟩ := isOf hZ rfl c195
              obtain ⟨_, _, ⟨T194, L194, k194, n194⟩, -, X194, ⟨Lc194, hQ194, l194, y194, z194⟩, st194⟩ := X168.virtualBack hx (y := (⟨"com/example/kept_reads/keptreads/wire/ReadGroup", "equals", "(Ljava/lang/Object;)Z"⟩ : MethodName)) (z := (⟨"com/example/kept_reads/keptreads/wire/ReadGroup", "equals", "(Ljava/lang/Object;)Z"⟩ : MethodName)) hown (mvT hZ (hw _ (List.mem_of_getElem? (i := 21) rfl))) (mvT hZ (hw _ (List.mem_of_getElem? (i := 22) rfl))) (notFace_of_selects (args := #[]) (mvT hZ (hw _ (List.mem_of_getElem? (i := 24) rfl)))) (mvT hZ (hw _ (List.mem_of_getElem? (i := 24) rfl))) (mvT hZ (hw _ (List.mem_of_getElem? (i := 23) rfl))) (by decide) (backOf (W := 0) (rmeqR l Z a0 hw [] b156 b162 (tf1_0 P0) (tf2_0 P1) (tf1_0 P2) (tf2_0 P1) T168.heap n0 Z169 c192 c193 p168_1 p168_2 p168_0 (show b156 ≠ b162 from ne165)) hZ (hw _ (List.mem_of_getElem? (i := 25) rfl)) (hw _ (List.mem_of_getElem? (i := 10) rfl)) (by decide) (by decide)) q194a q194c (g := (mkF m 173 #[.val (.long P0), .second, .val (.int P1), .val (.long P2), .second, .val (.int P3), .val (.int P4), .val (.long (tf1_0 P0)), .second, .val (.int (tf2_0 P1)), .val (.long (tf1_0 P2)), .second, .val (.int (tf2_0 P1)), .val (.ref b156), .val (.ref b162), .val (.int (((P4.toUInt32 >>> ((2 : Int32) &&& 31).toUInt32).toInt32) &&& (3 : Int32))), .val (.int (0 : Int32))] [(.ref b162), (.ref b156)])) rfl (by rw [hml]; rfl) (Steps.refl _) (argsL := [(.ref b162)]) (rest := []) (lenOf pd_0_3 rfl) rfl (by show 2 * 0 + _ ≤ _; exact Nat.le_of_eq rfl) (hb hby at_173) (fun _ _ => ⟨rfl, rfl, (by decide : 2 + 0 ≤ _), (by decide : 4 + 0 ≤ _)⟩)
              dsimp only [Pt.U, Pt.locs, Pt.cells, Pt.slots] at X194 l194 y194 z194 st194 hQ194
              subst l194 y194 z194
              obtain ⟨rfl, N194q, K194⟩ := hQ194
              have N194 := Fr.app N168 N194q
              obtain ⟨cq196, kq196, q196a, q196b, q196c⟩ := isOf hZ K194 p168_0
              obtain ⟨_, _, ⟨T196, L196, k196, n196⟩, -, X196, ⟨Lc196, hQ196, l196, y196, z196⟩, st196⟩ := X194.virtualBack hx (y := (⟨"com/example/kept_reads/keptreads/wire/ReadGroup", "equals", "(Ljava/lang/Object;)Z"⟩ : MethodName)) (z := (⟨"com/example/kept_reads/keptreads/wire/ReadGroup", "equals", "(Ljava/lang/Object;)Z"⟩ : MethodName)) hown (mvT hZ (hw _ (List.mem_of_getElem? (i := 21) rfl))) (mvT hZ (hw _ (List.mem_of_getElem? (i := 22) rfl))) (notFace_of_selects (args := #[]) (mvT hZ (hw _ (List.mem_of_getElem? (i := 24) rfl)))) (mvT hZ (hw _ (List.mem_of_getElem? (i := 24) rfl))) (mvT hZ (hw _ (List.mem_of_getElem? (i := 23) rfl))) (by decide) (backOf (W := 0) (rmeqR l Z a0 hw [] b162 b156 (tf1_0 P2) (tf2_0 P1) (tf1_0 P0) (tf2_0 P1) T168.heap n0 Z169 p168_1 p168_2 c192 c193 c195 (show b162 ≠ b156 from (Ne.symm ne165))) hZ (hw _ (List.mem_of_getElem? (i := 25) rfl)) (hw _ (List.mem_of_getElem? (i := 10) rfl)) (by decide) (by decide)) q196a q196c (g := (mkF m 185 #[.val (.long P0), .second, .val (.int P1), .val (.long P2), .second, .val (.int P3), .val (.int P4), .val (.long (tf1_0 P0)), .second, .val (.int (tf2_0 P1)), .val (.long (tf1_0 P2)), .second, .val (.int (tf2_0 P1)), .val (.ref b156), .val (.ref b162), .val (.int (((P4.toUInt32 >>> ((2 : Int32) &&& 31).toUInt32).toInt32) &&& (3 : Int32))), .val (.int (0 : Int32))] [(.ref b156), (.ref b162)])) rfl (by rw [hml]; rfl) (Steps.refl _) (argsL := [(.ref b156)]) (rest := []) (lenOf pd_0_3 rfl) rfl (by show 2 * 0 + _ ≤ _; exact Nat.le_of_eq rfl) (hb hby at_185) (fun _ _ => ⟨rfl, K194, (by decide : 2 + 0 ≤ _), (by decide : 4 + 0 ≤ _)⟩)
              dsimp only [Pt.U, Pt.locs, Pt.cells, Pt.slots] at X196 l196 y196 z196 st196 hQ196
              subst l196 y196 z196
              obtain ⟨rfl, N196q, K196⟩ := hQ196
              have N196 := Fr.app N194 N196q
              have pre197 : ∀ t, Steps p.tables e below (T196.setTop (mkF m 198 #[.val (.long P0), .second, .val (.int P1), .val (.long P2), .second, .val (.int P3), .val (.int P4), .val (.long (tf1_0 P0)), .second, .val (.int (tf2_0 P1)), .val (.long (tf1_0 P2)), .second, .val (.int (tf2_0 P1)), .val (.ref b156), .val (.ref b162), .val (.int (((P4.toUInt32 >>> ((2 : Int32) &&& 31).toUInt32).toInt32) &&& (3 : Int32))), .val (.int (0 : Int32))] [(.int (1 : Int32))])) t → Steps p.tables e below (s₁.setTop (entryFrame m #[(.long P0), (.int P1), (.long P2), (.int P3), (.int P4)] maxLocals)) t := fun t kt => pre185 t (by
                  show Steps p.tables e below (T168.setTop (mkF m 152 #[.val (.long P0), .second, .val (.int P1), .val (.long P2), .second, .val (.int P3), .val (.int P4), .val (.long (tf1_0 P0)), .second, .val (.int (tf2_0 P1)), .val (.long (tf1_0 P2)), .second, .val (.int (tf2_0 P1)), .val (.ref b156), .val (.ref b162), .val (.int (((P4.toUInt32 >>> ((2 : Int32) &&& 31).toUInt32).toInt32) &&& (3 : Int32))), .unset] [(.int (lcmpW (tf1_0 P0) (tf1_0 P2)))])) _
                  refine XS.ifYes X168.here hx rfl (pc0 := 152) (pc' := 166) rfl (hb hby at_152) rfl ((if0 _ _).trans (feq (fun q => hc152 ((lw_eq (tf1_0 P0) (tf1_0 P2)).mp q))).2) (by decide) (by decide) ?_
                  show Steps p.tables e below (T168.setTop (mkF m 166 #[.val (.long P0), .second, .val (.int P1), .val (.long P2), .second, .val (.int P3), .val (.int P4), .val (.long (tf1_0 P0)), .second, .val (.int (tf2_0 P1)), .val (.long (tf1_0 P2)), .second, .val (.int (tf2_0 P1)), .val (.ref b156), .val (.ref b162), .val (.int (((P4.toUInt32 >>> ((2 : Int32) &&& 31).toUInt32).toInt32) &&& (3 : Int32))), .unset] [])) _
                  refine XS.iconst X168.here hx rfl (hb hby at_166) ?_
                  show Steps p.tables e below (T168.setTop (mkF m 167 #[.val (.long P0), .second, .val (.int P1), .val (.long P2), .second, .val (.int P3), .val (.int P4), .val (.long (tf1_0 P0)), .second, .val (.int (tf2_0 P1)), .val (.long (tf1_0 P2)), .second, .val (.int (tf2_0 P1)), .val (.ref b156), .val (.ref b162), .val (.int (((P4.toUInt32 >>> ((2 : Int32) &&& 31).toUInt32).toInt32) &&& (3 : Int32))), .unset] [(.int (0 : Int32))])) _
                  refine XS.istore X168.here hx rfl (hb hby at_167) rfl (l' := #[.val (.long P0), .second, .val (.int P1), .val (.long P2), .second, .val (.int P3), .val (.int P4), .val (.long (tf1_0 P0)), .second, .val (.int (tf2_0 P1)), .val (.long (tf1_0 P2)), .second, .val (.int (tf2_0 P1)), .val (.ref b156), .val (.ref b162), .val (.int (((P4.toUInt32 >>> ((2 : Int32) &&& 31).toUInt32).toInt32) &&& (3 : Int32))), .val (.int (0 : Int32))]) rfl ?_
                  show Steps p.tables e below (T168.setTop (mkF m 169 #[.val (.long P0), .second, .val (.int P1), .val (.long P2), .second, .val (.int P3), .val (.int P4), .val (.long (tf1_0 P0)), .second, .val (.int (tf2_0 P1)), .val (.long (tf1_0 P2)), .second, .val (.int (tf2_0 P1)), .val (.ref b156), .val (.ref b162), .val (.int (((P4.toUInt32 >>> ((2 : Int32) &&& 31).toUInt32).toInt32) &&& (3 : Int32))), .val (.int (0 : Int32))] [])) _
                  refine XS.aload X168.here hx rfl (hb hby at_169) rfl rfl ?_
                  show Steps p.tables e below (T168.setTop (mkF m 171 #[.val (.long P0), .second, .val (.int P1), .val (.long P2), .second, .val (.int P3), .val (.int P4), .val (.long (tf1_0 P0)), .second, .val (.int (tf2_0 P1)), .val (.long (tf1_0 P2)), .second, .val (.int (tf2_0 P1)), .val (.ref b156), .val (.ref b162), .val (.int (((P4.toUInt32 >>> ((2 : Int32) &&& 31).toUInt32).toInt32) &&& (3 : Int32))), .val (.int (0 : Int32))] [(.ref b156)])) _
                  refine XS.aload X168.here hx rfl (hb hby at_171) rfl rfl ?_
                  show Steps p.tables e below (T168.setTop (mkF m 173 #[.val (.long P0), .second, .val (.int P1), .val (.long P2), .second, .val (.int P3), .val (.int P4), .val (.long (tf1_0 P0)), .second, .val (.int (tf2_0 P1)), .val (.long (tf1_0 P2)), .second, .val (.int (tf2_0 P1)), .val (.ref b156), .val (.ref b162), .val (.int (((P4.toUInt32 >>> ((2 : Int32) &&& 31).toUInt32).toInt32) &&& (3 : Int32))), .val (.int (0 : Int32))] [(.ref b162), (.ref b156)])) _
                  refine st194.trans ?_
                  show Steps p.tables e below (T194.setTop (mkF m 176 #[.val (.long P0), .second, .val (.int P1), .val (.long P2), .second, .val (.int P3), .val (.int P4), .val (.long (tf1_0 P0)), .second, .val (.int (tf2_0 P1)), .val (.long (tf1_0 P2)), .second, .val (.int (tf2_0 P1)), .val (.ref b156), .val (.ref b162), .val (.int (((P4.toUInt32 >>> ((2 : Int32) &&& 31).toUInt32).toInt32) &&& (3 : Int32))), .val (.int (0 : Int32))] [(.int (own_eq (tf1_0 P0) (tf1_0 P2) (tf2_0 P1) (tf2_0 P1)))])) _
                  refine XS.iload X194.here hx rfl (hb hby at_176) rfl ?_
                  show Steps p.tables e below (T194.setTop (mkF m 178 #[.val (.long P0), .second, .val (.int P1), .val (.long P2), .second, .val (.int P3), .val (.int P4), .val (.long (tf1_0 P0)), .second, .val (.int (tf2_0 P1)), .val (.long (tf1_0 P2)), .second, .val (.int (tf2_0 P1)), .val (.ref b156), .val (.ref b162), .val (.int (((P4.toUInt32 >>> ((2 : Int32) &&& 31).toUInt32).toInt32) &&& (3 : Int32))), .val (.int (0 : Int32))] [(.int (0 : Int32)), (.int (own_eq (tf1_0 P0) (tf1_0 P2) (tf2_0 P1) (tf2_0 P1)))])) _
                  refine XS.icmpNo X194.here hx rfl (hb hby at_178) rfl (teq (show (own_eq (tf1_0 P0) (tf1_0 P2) (tf2_0 P1) (tf2_0 P1)) = (0 : Int32) from (by unfold own_eq; rw [if_neg hc152]))).2 ?_
                  show Steps p.tables e below (T194.setTop (mkF m 181 #[.val (.long P0), .second, .val (.int P1), .val (.long P2), .second, .val (.int P3), .val (.int P4), .val (.long (tf1_0 P0)), .second, .val (.int (tf2_0 P1)), .val (.long (tf1_0 P2)), .second, .val (.int (tf2_0 P1)), .val (.ref b156), .val (.ref b162), .val (.int (((P4.toUInt32 >>> ((2 : Int32) &&& 31).toUInt32).toInt32) &&& (3 : Int32))), .val (.int (0 : Int32))] [])) _
                  refine XS.aload X194.here hx rfl (hb hby at_181) rfl rfl ?_
                  show Steps p.tables e below (T194.setTop (mkF m 183 #[.val (.long P0), .second, .val (.int P1), .val (.long P2), .second, .val (.int P3), .val (.int P4), .val (.long (tf1_0 P0)), .second, .val (.int (tf2_0 P1)), .val (.long (tf1_0 P2)), .second, .val (.int (tf2_0 P1)), .val (.ref b156), .val (.ref b162), .val (.int (((P4.toUInt32 >>> ((2 : Int32) &&& 31).toUInt32).toInt32) &&& (3 : Int32))), .val (.int (0 : Int32))] [(.ref b162)])) _
                  refine XS.aload X194.here hx rfl (hb hby at_183) rfl rfl ?_
                  show Steps p.tables e below (T194.setTop (mkF m 185 #[.val (.long P0), .second, .val (.int P1), .val (.long P2), .second, .val (.int P3), .val (.int P4), .val (.long (tf1_0 P0)), .second, .val (.int (tf2_0 P1)), .val (.long (tf1_0 P2)), .second, .val (.int (tf2_0 P1)), .val (.ref b156), .val (.ref b162), .val (.int (((P4.toUInt32 >>> ((2 : Int32) &&& 31).toUInt32).toInt32) &&& (3 : Int32))), .val (.int (0 : Int32))] [(.ref b156), (.ref b162)])) _
                  refine st196.trans ?_
                  show Steps p.tables e below (T196.setTop (mkF m 188 #[.val (.long P0), .second, .val (.int P1), .val (.long P2), .second, .val (.int P3), .val (.int P4), .val (.long (tf1_0 P0)), .second, .val (.int (tf2_0 P1)), .val (.long (tf1_0 P2)), .second, .val (.int (tf2_0 P1)), .val (.ref b156), .val (.ref b162), .val (.int (((P4.toUInt32 >>> ((2 : Int32) &&& 31).toUInt32).toInt32) &&& (3 : Int32))), .val (.int (0 : Int32))] [(.int (own_eq (tf1_0 P2) (tf1_0 P0) (tf2_0 P1) (tf2_0 P1)))])) _
                  refine XS.iload X196.here hx rfl (hb hby at_188) rfl ?_
                  show Steps p.tables e below (T196.setTop (mkF m 190 #[.val (.long P0), .second, .val (.int P1), .val (.long P2), .second, .val (.int P3), .val (.int P4), .val (.long (tf1_0 P0)), .second, .val (.int (tf2_0 P1)), .val (.long (tf1_0 P2)), .second, .val (.int (tf2_0 P1)), .val (.ref b156), .val (.ref b162), .val (.int (((P4.toUInt32 >>> ((2 : Int32) &&& 31).toUInt32).toInt32) &&& (3 : Int32))), .val (.int (0 : Int32))] [(.int (0 : Int32)), (.int (own_eq (tf1_0 P2) (tf1_0 P0) (tf2_0 P1) (tf2_0 P1)))])) _
                  refine XS.icmpNo X196.here hx rfl (hb hby at_190) rfl (teq (show (own_eq (tf1_0 P2) (tf1_0 P0) (tf2_0 P1) (tf2_0 P1)) = (0 : Int32) from (by unfold own_eq; rw [if_neg (fun q => hc152 q.symm)]))).2 ?_
                  show Steps p.tables e below (T196.setTop (mkF m 193 #[.val (.long P0), .second, .val (.int P1), .val (.long P2), .second, .val (.int P3), .val (.int P4), .val (.long (tf1_0 P0)), .second, .val (.int (tf2_0 P1)), .val (.long (tf1_0 P2)), .second, .val (.int (tf2_0 P1)), .val (.ref b156), .val (.ref b162), .val (.int (((P4.toUInt32 >>> ((2 : Int32) &&& 31).toUInt32).toInt32) &&& (3 : Int32))), .val (.int (0 : Int32))] [])) _
                  refine XS.iconst X196.here hx rfl (hb hby at_193) ?_
                  show Steps p.tables e below (T196.setTop (mkF m 194 #[.val (.long P0), .second, .val (.int P1), .val (.long P2), .second, .val (.int P3), .val (.int P4), .val (.long (tf1_0 P0)), .second, .val (.int (tf2_0 P1)), .val (.long (tf1_0 P2)), .second, .val (.int (tf2_0 P1)), .val (.ref b156), .val (.ref b162), .val (.int (((P4.toUInt32 >>> ((2 : Int32) &&& 31).toUInt32).toInt32) &&& (3 : Int32))), .val (.int (0 : Int32))] [(.int (1 : Int32))])) _
                  refine XS.goto X196.here hx rfl (pc0 := 194) (pc' := 198) rfl (hb hby at_194) (by decide) (by decide) ?_
                  exact kt)
              obtain ⟨fs, hr, hrun, hended, hW, hsame⟩ := X196.leave (v := some (.int (1 : Int32))) (fun h => by rw [Bd.returns] at h; cases h)
              refine ⟨_, _, pre197 _ ?_, hrun, hended, _, _, rfl, ?_, ⟨_, rfl⟩, hW, hsame.mono (by decide) (by decide)⟩
              · show Steps p.tables e below (T196.setTop (mkF m 198 #[.val (.long P0), .second, .val (.int P1), .val (.long P2), .second, .val (.int P3), .val (.int P4), .val (.long (tf1_0 P0)), .second, .val (.int (tf2_0 P1)), .val (.long (tf1_0 P2)), .second, .val (.int (tf2_0 P1)), .val (.ref b156), .val (.ref b162), .val (.int (((P4.toUInt32 >>> ((2 : Int32) &&& 31).toUInt32).toInt32) &&& (3 : Int32))), .val (.int (0 : Int32))] [(.int (1 : Int32))])) _
                exact retN X196 hx (t := .boolean) Bd.returns (by simp) (hb hby at_198) hr
              · show Q0 Z P0 P1 P2 P3 P4 U0 h0 n0 _ T196.heap _
                rw [K196]
                exact ⟨rfl, N196⟩
  · have pre198 : ∀ t, Steps p.tables e below (T102.setTop (mkF m 34 #[.val (.long P0), .second, .val (.int P1), .val (.long P2), .second, .val (.int P3), .val (.int P4), .val (.long (tf1_0 P0)), .second, .val (.int (tf2_0 P1)), .val (.long (tf1_0 P0)), .second, .unset, .unset, .unset, .unset, .unset] [(.int (P4 &&& (2 : Int32)))])) t → Steps p.tables e below (s₁.setTop (entryFrame m #[(.long P0), (.int P1), (.long P2), (.int P3), (.int P4)] maxLocals)) t := fun t kt => pre103 t (by
        show Steps p.tables e below (T102.setTop (mkF m 16 #[.val (.long P0), .second, .val (.int P1), .val (.long P2), .second, .val (.int P3), .val (.int P4), .val (.long (tf1_0 P0)), .second, .val (.int (tf2_0 P1)), .unset, .unset, .unset, .unset, .unset, .unset, .unset] [(.int (P4 &&& (1 : Int32)))])) _
        refine XS.ifNo X102.here hx rfl (hb hby at_16) rfl ((if0 _ _).trans (feq hc16).1) ?_
        show Steps p.tables e below (T102.setTop (mkF m 19 #[.val (.long P0), .second, .val (.int P1), .val (.long P2), .second, .val (.int P3), .val (.int P4), .val (.long (tf1_0 P0)), .second, .val (.int (tf2_0 P1)), .unset, .unset, .unset, .unset, .unset, .unset, .unset] [])) _
        refine XS.lload X102.here hx rfl (hb hby at_19) rfl ?_
        show Steps p.tables e below (T102.setTop (mkF m 21 #[.val (.long P0), .second, .val (.int P1), .val (.long P2), .second, .val (.int P3), .val (.int P4), .val (.long (tf1_0 P0)), .second, .val (.int (tf2_0 P1)), .unset, .unset, .unset, .unset, .unset, .unset, .unset] [(.long (tf1_0 P0))])) _
        refine XS.goto X102.here hx rfl (pc0 := 21) (pc' := 28) rfl (hb hby at_21) (by decide) (by decide) ?_
        show Steps p.tables e below (T102.setTop (mkF m 28 #[.val (.long P0), .second, .val (.int P1), .val (.long P2), .second, .val (.int P3), .val (.int P4), .val (.long (tf1_0 P0)), .second, .val (.int (tf2_0 P1)), .unset, .unset, .unset, .unset, .unset, .unset, .unset] [(.long (tf1_0 P0))])) _
        refine XS.lstore X102.here hx rfl (hb hby at_28) rfl (l' := #[.val (.long P0), .second, .val (.int P1), .val (.long P2), .second, .val (.int P3), .val (.int P4), .val (.long (tf1_0 P0)), .second, .val (.int (tf2_0 P1)), .val (.long (tf1_0 P0)), .second, .unset, .unset, .unset, .unset, .unset]) rfl ?_
        show Steps p.tables e below (T102.setTop (mkF m 30 #[.val (.long P0), .second, .val (.int P1), .val (.long P2), .second, .val (.int P3), .val (.int P4), .val (.long (tf1_0 P0)), .second, .val (.int (tf2_0 P1)), .val (.long (tf1_0 P0)), .second, .unset, .unset, .unset, .unset, .unset] [])) _
        refine XS.iload X102.here hx rfl (hb hby at_30) rfl ?_
        show Steps p.tables e below (T102.setTop (mkF m 32 #[.val (.long P0), .second, .val (.int P1), .val (.long P2), .second, .val (.int P3), .val (.int P4), .val (.long (tf1_0 P0)), .second, .val (.int (tf2_0 P1)), .val (.long (tf1_0 P0)), .second, .unset, .unset, .unset, .unset, .unset] [(.int P4)])) _
        refine XS.iconst X102.here hx rfl (hb hby at_32) ?_
        show Steps p.tables e below (T102.setTop (mkF m 33 #[.val (.long P0), .second, .val (.int P1), .val (.long P2), .second, .val (.int P3), .val (.int P4), .val (.long (tf1_0 P0)), .second, .val (.int (tf2_0 P1)), .val (.long (tf1_0 P0)), .second, .unset, .unset, .unset, .unset, .unset] [(.int (2 : Int32)), (.int P4)])) _
        refine XS.iand X102.here hx rfl (hb hby at_33) rfl ?_
        exact kt)
    by_cases hc34 : (P4 &&& (2 : Int32)) = (0 : Int32)
    · obtain ⟨_, _, ⟨T199, L199, k199, n199⟩, -, X199, ⟨Lc199, hQ199, l199, y199, z199⟩, st199⟩ := Jvm.LawKit.callS X102 hx (y := (⟨"com/example/kept_reads/keptreads/wire/ReadGroupEqualsPinLaw", "posI", "(I)I"⟩ : MethodName)) hown (mvT hZ (hw _ (List.mem_of_getElem? (i := 4) rfl))) (mvT hZ (hw _ (List.mem_of_getElem? (i := 5) rfl))) (mvT hZ (hw _ (List.mem_of_getElem? (i := 2) rfl))) (mvT hZ (hw _ (List.mem_of_getElem? (i := 6) rfl))) (by decide) (backOf (W := 0) (rm2 l Z a0 hw [] P3 h0 n0 Z0 ) hZ (hw _ (List.mem_of_getElem? (i := 6) rfl)) (hw _ (List.mem_of_getElem? (i := 2) rfl)) (by decide) (by decide)) (g := (mkF m 44 #[.val (.long P0), .second, .val (.int P1), .val (.long P2), .second, .val (.int P3), .val (.int P4), .val (.long (tf1_0 P0)), .second, .val (.int (tf2_0 P1)), .val (.long (tf1_0 P0)), .second, .unset, .unset, .unset, .unset, .unset] [(.int P3)])) rfl (by rw [hml]; rfl) (argsL := [(.int P3)]) (rest := []) (lenOf pd_0_1 rfl) rfl (by show 2 * 0 + _ ≤ _; exact Nat.le_of_eq rfl) (hb hby at_44) (fun _ _ => ⟨rfl, K102, (by decide : 0 + 0 ≤ _), (by decide : 0 + 0 ≤ _)⟩)
      dsimp only [Pt.U, Pt.locs, Pt.cells, Pt.slots] at X199 l199 y199 z199 st199 hQ199
      subst l199 y199 z199
      obtain ⟨rfl, N199q, K199⟩ := hQ199
      have N199 := Fr.app N102 N199q
      obtain ⟨T200, h200, X200, e200, E200, A200, D200, -, st200⟩ := newO X199 hx hZ hown (hw _ (List.mem_of_getElem? (i := 8) rfl)) (hw _ (List.mem_of_getElem? (i := 9) rfl)) (hw _ (List.mem_of_getElem? (i := 10) rfl)) K199 (g := (mkF m 49 #[.val (.long P0), .second, .val (.int P1), .val (.long P2), .second, .val (.int P3), .val (.int P4), .val (.long (tf1_0 P0)), .second, .val (.int (tf2_0 P1)), .val (.long (tf1_0 P0)), .second, .val (.int (tf2_0 P3)), .unset, .unset, .unset, .unset] [])) rfl (hb hby at_49) (by decide) (by decide)
      obtain ⟨b200, q200⟩ : ∃ z, z = h0.size := ⟨_, rfl⟩
      rw [← q200] at A200 D200 st200
      have ne201 : U0 ≠ b200 := Nat.ne_of_lt (Nat.lt_of_lt_of_le pm1.lt (Nat.le_of_eq q200.symm))
      have g_b200 : n0 ≤ b200 := Nat.le_trans Z0 (Nat.le_of_eq q200.symm)
      have Z202 : n0 ≤ h200.size := Nat.le_trans Z0 E200.1
      have F200_18 : Fld Z h200 b200 "com/example/kept_reads/keptreads/wire/ReadGroup" "transaction" "J" (.long (0 : Int64)) := D200 (Or.inr (hw _ (List.mem_of_getElem? (i := 18) rfl))) (ty := .long) (by decide)
      have F200_20 : Fld Z h200 b200 "com/example/kept_reads/keptreads/wire/ReadGroup" "call" "I" (.int (0 : Int32)) := D200 (Or.inr (hw _ (List.mem_of_getElem? (i := 20) rfl))) (ty := .int) (by decide)
      have c203 : Sta Z h200 "java/lang/Long$LongCache" "cache" "[Ljava/lang/Long;" (.ref U0) := (pm0.ext E200)
      obtain ⟨_, _, ⟨T204, L204, k204, n204⟩, -, X204, ⟨Lc204, hQ204, l204, y204, z204⟩, st204⟩ := X200.specialBack hx (y := (⟨"com/example/kept_reads/keptreads/wire/ReadGroup", "<init>", "(JI)V"⟩ : MethodName)) rfl hown (mvT hZ (hw _ (List.mem_of_getElem? (i := 11) rfl))) (mvT hZ (hw _ (List.mem_of_getElem? (i := 12) rfl))) (mvT hZ (hw _ (List.mem_of_getElem? (i := 13) rfl))) (by decide) (backOf (W := 1) (rm3 l Z a0 hw [] b200 (tf1_0 P0) (tf2_0 P1) (0 : Int64) (0 : Int32) h200 n0 Z202 F200_18 F200_20 A200 (show ¬ ((tf1_0 P0) < (1 : Int64)) from (own_posL _)) (show ¬ ((tf2_0 P1) < (1 : Int32)) from (own_posI _)) g_b200) hZ (hw _ (List.mem_of_getElem? (i := 13) rfl)) (hw _ (List.mem_of_getElem? (i := 10) rfl)) (by decide) (by decide)) (g := (mkF m 57 #[.val (.long P0), .second, .val (.int P1), .val (.long P2), .second, .val (.int P3), .val (.int P4), .val (.long (tf1_0 P0)), .second, .val (.int (tf2_0 P1)), .val (.long (tf1_0 P0)), .second, .val (.int (tf2_0 P3)), .unset, .unset, .unset, .unset] [(.int (tf2_0 P1)), (.long (tf1_0 P0)), (.ref b200), (.ref b200)])) rfl (by rw [hml]; rfl) (Steps.refl _) (a := b200) (argsL := [(.long (tf1_0 P0)), (.int (tf2_0 P1))]) (rest := [(.ref b200)]) (lenOf pd_0_2 rfl) rfl (by show 2 * 0 + _ ≤ _; exact Nat.le_of_eq rfl) (hb hby at_57) (fun _ _ => ⟨rfl, e200, (by decide : 1 + 0 ≤ _), (by decide : 2 + 0 ≤ _)⟩)
      dsimp only [Pt.U, Pt.locs, Pt.cells, Pt.slots] at X204 l204 y204 z204 st204 hQ204
      subst l204 y204 z204
      obtain ⟨rfl, N204q, K204, p204_0, p204_1, p204_2⟩ := hQ204
      have N204 := Fr.app N199 N204q
      have Z205 : n0 ≤ T204.heap.size := Nat.le_trans Z202 K204.1
      have ss204_0 : Sta Z T204.heap "java/lang/Long$LongCache" "cache" "[Ljava/lang/Long;" (.ref U0) := own_sta_keep c203 K204 (allS (own_ns A200) all0)
      obtain ⟨T206, h206, X206, e206, E206, A206, D206, -, st206⟩ := newO X204 hx hZ hown (hw _ (List.mem_of_getElem? (i := 8) rfl)) (hw _ (List.mem_of_getElem? (i := 9) rfl)) (hw _ (List.mem_of_getElem? (i := 10) rfl)) rfl (g := (mkF m 62 #[.val (.long P0), .second, .val (.int P1), .val (.long P2), .second, .val (.int P3), .val (.int P4), .val (.long (tf1_0 P0)), .second, .val (.int (tf2_0 P1)), .val (.long (tf1_0 P0)), .second, .val (.int (tf2_0 P3)), .val (.ref b200), .unset, .unset, .unset] [])) rfl (hb hby at_62) (by decide) (by decide)
      obtain ⟨b206, q206⟩ : ∃ z, z = T204.heap.size := ⟨_, rfl⟩
      rw [← q206] at A206 D206 st206
      have c208 : own_Cac Z T204.heap "java/lang/Long" U0 := ((pm1.ext E200).keep K204 (ninS ne201 nin0))
      have ne207 : U0 ≠ b206 := Nat.ne_of_lt (Nat.lt_of_lt_of_le c208.lt (Nat.le_of_eq q206.symm))
      have ne209 : b200 ≠ b206 := Nat.ne_of_lt (Nat.lt_of_lt_of_le p204_0.lt (Nat.le_of_eq q206.symm))
      have g_b206 : n0 ≤ b206 := Nat.le_trans Z205 (Nat.le_of_eq q206.symm)
      have Z210 : n0 ≤ h206.size := Nat.le_trans Z205 E206.1
      have F206_18 : Fld Z h206 b206 "com/example/kept_reads/keptreads/wire/ReadGroup" "transaction" "J" (.long (0 : Int64)) := D206 (Or.inr (hw _ (List.mem_of_getElem? (i := 18) rfl))) (ty := .long) (by decide)
      have F206_20 : Fld Z h206 b206 "com/example/kept_reads/keptreads/wire/ReadGroup" "call" "I" (.int (0 : Int32)) := D206 (Or.inr (hw _ (List.mem_of_getElem? (i := 20) rfl))) (ty := .int) (by decide)
      have c211 : Sta Z h206 "java/lang/Long$LongCache" "cache" "[Ljava/lang/Long;" (.ref U0) := (ss204_0.ext E206)
      obtain ⟨_, _, ⟨T212, L212, k212, n212⟩, -, X212, ⟨Lc212, hQ212, l212, y212, z212⟩, st212⟩ := X206.specialBack hx (y := (⟨"com/example/kept_reads/keptreads/wire/ReadGroup", "<init>", "(JI)V"⟩ : MethodName)) rfl hown (mvT hZ (hw _ (List.mem_of_getElem? (i := 11) rfl))) (mvT hZ (hw _ (List.mem_of_getElem? (i := 12) rfl))) (mvT hZ (hw _ (List.mem_of_getElem? (i := 13) rfl))) (by decide) (backOf (W := 1) (rm3 l Z a0 hw [] b206 (tf1_0 P0) (tf2_0 P3) (0 : Int64) (0 : Int32) h206 n0 Z210 F206_18 F206_20 A206 (show ¬ ((tf1_0 P0) < (1 : Int64)) from (own_posL _)) (show ¬ ((tf2_0 P3) < (1 : Int32)) from (own_posI _)) g_b206) hZ (hw _ (List.mem_of_getElem? (i := 13) rfl)) (hw _ (List.mem_of_getElem? (i := 10) rfl)) (by decide) (by decide)) (g := (mkF m 70 #[.val (.long P0), .second, .val (.int P1), .val (.long P2), .second, .val (.int P3), .val (.int P4), .val (.long (tf1_0 P0)), .second, .val (.int (tf2_0 P1)), .val (.long (tf1_0 P0)), .second, .val (.int (tf2_0 P3)), .val (.ref b200), .unset, .unset, .unset] [(.int (tf2_0 P3)), (.long (tf1_0 P0)), (.ref b206), (.ref b206)])) rfl (by rw [hml]; rfl) (Steps.refl _) (a := b206) (argsL := [(.long (tf1_0 P0)), (.int (tf2_0 P3))]) (rest := [(.ref b206)]) (lenOf pd_0_2 rfl) rfl (by show 2 * 0 + _ ≤ _; exact Nat.le_of_eq rfl) (hb hby at_70) (fun _ _ => ⟨rfl, e206, (by decide : 2 + 0 ≤ _), (by decide : 4 + 0 ≤ _)⟩)
      dsimp only [Pt.U, Pt.locs, Pt.cells, Pt.slots] at X212 l212 y212 z212 st212 hQ212
      subst l212 y212 z212
      obtain ⟨rfl, N212q, K212, p212_0, p212_1, p212_2⟩ := hQ212
      have N212 := Fr.app N204 N212q
      have Z213 : n0 ≤ T212.heap.size := Nat.le_trans Z210 K212.1
      have ss212_0 : Sta Z T212.heap "java/lang/Long$LongCache" "cache" "[Ljava/lang/Long;" (.ref U0) := own_sta_keep c211 K212 (allS (own_ns A206) all0)
      have pre214 : ∀ t, Steps p.tables e below (T212.setTop (mkF m 86 #[.val (.long P0), .second, .val (.int P1), .val (.long P2), .second, .val (.int P3), .val (.int P4), .val (.long (tf1_0 P0)), .second, .val (.int (tf2_0 P1)), .val (.long (tf1_0 P0)), .second, .val (.int (tf2_0 P3)), .val (.ref b200), .val (.ref b206), .val (.int (((P4.toUInt32 >>> ((2 : Int32) &&& 31).toUInt32).toInt32) &&& (3 : Int32))), .unset] [(.int (1 : Int32)), (.int (((P4.toUInt32 >>> ((2 : Int32) &&& 31).toUInt32).toInt32) &&& (3 : Int32)))])) t → Steps p.tables e below (s₁.setTop (entryFrame m #[(.long P0), (.int P1), (.long P2), (.int P3), (.int P4)] maxLocals)) t := fun t kt => pre198 t (by
          show Steps p.tables e below (T102.setTop (mkF m 34 #[.val (.long P0), .second, .val (.int P1), .val (.long P2), .second, .val (.int P3), .val (.int P4), .val (.long (tf1_0 P0)), .second, .val (.int (tf2_0 P1)), .val (.long (tf1_0 P0)), .second, .unset, .unset, .unset, .unset, .unset] [(.int (P4 &&& (2 : Int32)))])) _
          refine XS.ifYes X102.here hx rfl (pc0 := 34) (pc' := 42) rfl (hb hby at_34) rfl ((if0 _ _).trans (teq hc34).1) (by decide) (by decide) ?_
          show Steps p.tables e below (T102.setTop (mkF m 42 #[.val (.long P0), .second, .val (.int P1), .val (.long P2), .second, .val (.int P3), .val (.int P4), .val (.long (tf1_0 P0)), .second, .val (.int (tf2_0 P1)), .val (.long (tf1_0 P0)), .second, .unset, .unset, .unset, .unset, .unset] [])) _
          refine XS.iload X102.here hx rfl (hb hby at_42) rfl ?_
          show Steps p.tables e below (T102.setTop (mkF m 44 #[.val (.long P0), .second, .val (.int P1), .val (.long P2), .second, .val (.int P3), .val (.int P4), .val (.long (tf1_0 P0)), .second, .val (.int (tf2_0 P1)), .val (.long (tf1_0 P0)), .second, .unset, .unset, .unset, .unset, .unset] [(.int P3)])) _
          refine st199 _ ?_
          show Steps p.tables e below (T199.setTop (mkF m 47 #[.val (.long P0), .second, .val (.int P1), .val (.long P2), .second, .val (.int P3), .val (.int P4), .val (.long (tf1_0 P0)), .second, .val (.int (tf2_0 P1)), .val (.long (tf1_0 P0)), .second, .unset, .unset, .unset, .unset, .unset] [(.int (tf2_0 P3))])) _
          refine XS.istore X199.here hx rfl (hb hby at_47) rfl (l' := #[.val (.long P0), .second, .val (.int P1), .val (.long P2), .second, .val (.int P3), .val (.int P4), .val (.long (tf1_0 P0)), .second, .val (.int (tf2_0 P1)), .val (.long (tf1_0 P0)), .second, .val (.int (tf2_0 P3)), .unset, .unset, .unset, .unset]) rfl ?_
          show Steps p.tables e below (T199.setTop (mkF m 49 #[.val (.long P0), .second, .val (.int P1), .val (.long P2), .second, .val (.int P3), .val (.int P4), .val (.long (tf1_0 P0)), .second, .val (.int (tf2_0 P1)), .val (.long (tf1_0 P0)), .second, .val (.int (tf2_0 P3)), .unset, .unset, .unset, .unset] [])) _
          refine st200 _ ?_
          show Steps p.tables e below (T200.setTop (mkF m 52 #[.val (.long P0), .second, .val (.int P1), .val (.long P2), .second, .val (.int P3), .val (.int P4), .val (.long (tf1_0 P0)), .second, .val (.int (tf2_0 P1)), .val (.long (tf1_0 P0)), .second, .val (.int (tf2_0 P3)), .unset, .unset, .unset, .unset] [(.ref b200)])) _
          refine XS.dup X200.here hx rfl (hb hby at_52) rfl rfl ?_
          show Steps p.tables e below (T200.setTop (mkF m 53 #[.val (.long P0), .second, .val (.int P1), .val (.long P2), .second, .val (.int P3), .val (.int P4), .val (.long (tf1_0 P0)), .second, .val (.int (tf2_0 P1)), .val (.long (tf1_0 P0)), .second, .val (.int (tf2_0 P3)), .unset, .unset, .unset, .unset] [(.ref b200), (.ref b200)])) _
          refine XS.lload X200.here hx rfl (hb hby at_53) rfl ?_
          show Steps p.tables e below (T200.setTop (mkF m 55 #[.val (.long P0), .second, .val (.int P1), .val (.long P2), .second, .val (.int P3), .val (.int P4), .val (.long (tf1_0 P0)), .second, .val (.int (tf2_0 P1)), .val (.long (tf1_0 P0)), .second, .val (.int (tf2_0 P3)), .unset, .unset, .unset, .unset] [(.long (tf1_0 P0)), (.ref b200), (.ref b200)])) _
          refine XS.iload X200.here hx rfl (hb hby at_55) rfl ?_
          show Steps p.tables e below (T200.setTop (mkF m 57 #[.val (.long P0), .second, .val (.int P1), .val (.long P2), .second, .val (.int P3), .val (.int P4), .val (.long (tf1_0 P0)), .second, .val (.int (tf2_0 P1)), .val (.long (tf1_0 P0)), .second, .val (.int (tf2_0 P3)), .unset, .unset, .unset, .unset] [(.int (tf2_0 P1)), (.long (tf1_0 P0)), (.ref b200), (.ref b200)])) _
          refine st204.trans ?_
          show Steps p.tables e below (T204.setTop (mkF m 60 #[.val (.long P0), .second, .val (.int P1), .val (.long P2), .second, .val (.int P3), .val (.int P4), .val (.long (tf1_0 P0)), .second, .val (.int (tf2_0 P1)), .val (.long (tf1_0 P0)), .second, .val (.int (tf2_0 P3)), .unset, .unset, .unset, .unset] [(.ref b200)])) _
          refine XS.astore X204.here hx rfl (hb hby at_60) rfl rfl (l' := #[.val (.long P0), .second, .val (.int P1), .val (.long P2), .second, .val (.int P3), .val (.int P4), .val (.long (tf1_0 P0)), .second, .val (.int (tf2_0 P1)), .val (.long (tf1_0 P0)), .second, .val (.int (tf2_0 P3)), .val (.ref b200), .unset, .unset, .unset]) rfl ?_
          show Steps p.tables e below (T204.setTop (mkF m 62 #[.val (.long P0), .second, .val (.int P1), .val (.long P2), .second, .val (.int P3), .val (.int P4), .val (.long (tf1_0 P0)), .second, .val (.int (tf2_0 P1)), .val (.long (tf1_0 P0)), .second, .val (.int (tf2_0 P3)), .val (.ref b200), .unset, .unset, .unset] [])) _
          refine st206 _ ?_
          show Steps p.tables e below (T206.setTop (mkF m 65 #[.val (.long P0), .second, .val (.int P1), .val (.long P2), .second, .val (.int P3), .val (.int P4), .val (.long (tf1_0 P0)), .second, .val (.int (tf2_0 P1)), .val (.long (tf1_0 P0)), .second, .val (.int (tf2_0 P3)), .val (.ref b200), .unset, .unset, .unset] [(.ref b206)])) _
          refine XS.dup X206.here hx rfl (hb hby at_65) rfl rfl ?_
          show Steps p.tables e below (T206.setTop (mkF m 66 #[.val (.long P0), .second, .val (.int P1), .val (.long P2), .second, .val (.int P3), .val (.int P4), .val (.long (tf1_0 P0)), .second, .val (.int (tf2_0 P1)), .val (.long (tf1_0 P0)), .second, .val (.int (tf2_0 P3)), .val (.ref b200), .unset, .unset, .unset] [(.ref b206), (.ref b206)])) _
          refine XS.lload X206.here hx rfl (hb hby at_66) rfl ?_
          show Steps p.tables e below (T206.setTop (mkF m 68 #[.val (.long P0), .second, .val (.int P1), .val (.long P2), .second, .val (.int P3), .val (.int P4), .val (.long (tf1_0 P0)), .second, .val (.int (tf2_0 P1)), .val (.long (tf1_0 P0)), .second, .val (.int (tf2_0 P3)), .val (.ref b200), .unset, .unset, .unset] [(.long (tf1_0 P0)), (.ref b206), (.ref b206)])) _
          refine XS.iload X206.here hx rfl (hb hby at_68) rfl ?_
          show Steps p.tables e below (T206.setTop (mkF m 70 #[.val (.long P0), .second, .val (.int P1), .val (.long P2), .second, .val (.int P3), .val (.int P4), .val (.long (tf1_0 P0)), .second, .val (.int (tf2_0 P1)), .val (.long (tf1_0 P0)), .second, .val (.int (tf2_0 P3)), .val (.ref b200), .unset, .unset, .unset] [(.int (tf2_0 P3)), (.long (tf1_0 P0)), (.ref b206), (.ref b206)])) _
          refine st212.trans ?_
          show Steps p.tables e below (T212.setTop (mkF m 73 #[.val (.long P0), .second, .val (.int P1), .val (.long P2), .second, .val (.int P3), .val (.int P4), .val (.long (tf1_0 P0)), .second, .val (.int (tf2_0 P1)), .val (.long (tf1_0 P0)), .second, .val (.int (tf2_0 P3)), .val (.ref b200), .unset, .unset, .unset] [(.ref b206)])) _
          refine XS.astore X212.here hx rfl (hb hby at_73) rfl rfl (l' := #[.val (.long P0), .second, .val (.int P1), .val (.long P2), .second, .val (.int P3), .val (.int P4), .val (.long (tf1_0 P0)), .second, .val (.int (tf2_0 P1)), .val (.long (tf1_0 P0)), .second, .val (.int (tf2_0 P3)), .val (.ref b200), .val (.ref b206), .unset, .unset]) rfl ?_
          show Steps p.tables e below (T212.setTop (mkF m 75 #[.val (.long P0), .second, .val (.int P1), .val (.long P2), .second, .val (.int P3), .val (.int P4), .val (.long (tf1_0 P0)), .second, .val (.int (tf2_0 P1)), .val (.long (tf1_0 P0)), .second, .val (.int (tf2_0 P3)), .val (.ref b200), .val (.ref b206), .unset, .unset] [])) _
          refine XS.iload X212.here hx rfl (hb hby at_75) rfl ?_
          show Steps p.tables e below (T212.setTop (mkF m 77 #[.val (.long P0), .second, .val (.int P1), .val (.long P2), .second, .val (.int P3), .val (.int P4), .val (.long (tf1_0 P0)), .second, .val (.int (tf2_0 P1)), .val (.long (tf1_0 P0)), .second, .val (.int (tf2_0 P3)), .val (.ref b200), .val (.ref b206), .unset, .unset] [(.int P4)])) _
          refine XS.iconst X212.here hx rfl (hb hby at_77) ?_
          show Steps p.tables e below (T212.setTop (mkF m 78 #[.val (.long P0), .second, .val (.int P1), .val (.long P2), .second, .val (.int P3), .val (.int P4), .val (.long (tf1_0 P0)), .second, .val (.int (tf2_0 P1)), .val (.long (tf1_0 P0)), .second, .val (.int (tf2_0 P3)), .val (.ref b200), .val (.ref b206), .unset, .unset] [(.int (2 : Int32)), (.int P4)])) _
          refine XS.iushr X212.here hx rfl (hb hby at_78) rfl ?_
          show Steps p.tables e below (T212.setTop (mkF m 79 #[.val (.long P0), .second, .val (.int P1), .val (.long P2), .second, .val (.int P3), .val (.int P4), .val (.long (tf1_0 P0)), .second, .val (.int (tf2_0 P1)), .val (.long (tf1_0 P0)), .second, .val (.int (tf2_0 P3)), .val (.ref b200), .val (.ref b206), .unset, .unset] [(.int ((P4.toUInt32 >>> ((2 : Int32) &&& 31).toUInt32).toInt32))])) _
          refine XS.iconst X212.here hx rfl (hb hby at_79) ?_
          show Steps p.tables e below (T212.setTop (mkF m 80 #[.val (.long P0), .second, .val (.int P1), .val (.long P2), .second, .val (.int P3), .val (.int P4), .val (.long (tf1_0 P0)), .second, .val (.int (tf2_0 P1)), .val (.long (tf1_0 P0)), .second, .val (.int (tf2_0 P3)), .val (.ref b200), .val (.ref b206), .unset, .unset] [(.int (3 : Int32)), (.int ((P4.toUInt32 >>> ((2 : Int32) &&& 31).toUInt32).toInt32))])) _
          refine XS.iand X212.here hx rfl (hb hby at_80) rfl ?_
          show Steps p.tables e below (T212.setTop (mkF m 81 #[.val (.long P0), .second, .val (.int P1), .val (.long P2), .second, .val (.int P3), .val (.int P4), .val (.long (tf1_0 P0)), .second, .val (.int (tf2_0 P1)), .val (.long (tf1_0 P0)), .second, .val (.int (tf2_0 P3)), .val (.ref b200), .val (.ref b206), .unset, .unset] [(.int (((P4.toUInt32 >>> ((2 : Int32) &&& 31).toUInt32).toInt32) &&& (3 : Int32)))])) _
          refine XS.istore X212.here hx rfl (hb hby at_81) rfl (l' := #[.val (.long P0), .second, .val (.int P1), .val (.long P2), .second, .val (.int P3), .val (.int P4), .val (.long (tf1_0 P0)), .second, .val (.int (tf2_0 P1)), .val (.long (tf1_0 P0)), .second, .val (.int (tf2_0 P3)), .val (.ref b200), .val (.ref b206), .val (.int (((P4.toUInt32 >>> ((2 : Int32) &&& 31).toUInt32).toInt32) &&& (3 : Int32))), .unset]) rfl ?_
          show Steps p.tables e below (T212.setTop (mkF m 83 #[.val (.long P0), .second, .val (.int P1), .val (.long P2), .second, .val (.int P3), .val (.int P4), .val (.long (tf1_0 P0)), .second, .val (.int (tf2_0 P1)), .val (.long (tf1_0 P0)), .second, .val (.int (tf2_0 P3)), .val (.ref b200), .val (.ref b206), .val (.int (((P4.toUInt32 >>> ((2 : Int32) &&& 31).toUInt32).toInt32) &&& (3 : Int32))), .unset] [])) _
          refine XS.iload X212.here hx rfl (hb hby at_83) rfl ?_
          show Steps p.tables e below (T212.setTop (mkF m 85 #[.val (.long P0), .second, .val (.int P1), .val (.long P2), .second, .val (.int P3), .val (.int P4), .val (.long (tf1_0 P0)), .second, .val (.int (tf2_0 P1)), .val (.long (tf1_0 P0)), .second, .val (.int (tf2_0 P3)), .val (.ref b200), .val (.ref b206), .val (.int (((P4.toUInt32 >>> ((2 : Int32) &&& 31).toUInt32).toInt32) &&& (3 : Int32))), .unset] [(.int (((P4.toUInt32 >>> ((2 : Int32) &&& 31).toUInt32).toInt32) &&& (3 : Int32)))])) _
          refine XS.iconst X212.here hx rfl (hb hby at_85) ?_
          exact kt)
      by_cases hc86 : (((P4.toUInt32 >>> ((2 : Int32) &&& 31).toUInt32).toInt32) &&& (3 : Int32)) = (1 : Int32)
      · have c216 : Exa Z T212.heap b200 "com/example/kept_reads/keptreads/wire/ReadGroup" := ((p204_0.ext E206).keep K212)
        obtain ⟨cq215, kq215, q215a, q215b, q215c⟩ := isOf hZ rfl c216
        obtain ⟨_, _, ⟨T215, L215, k215, n215⟩, -, X215, ⟨Lc215, hQ215, l215, y215, z215⟩, st215⟩ := X212.virtualBack hx (y := (⟨"com/example/kept_reads/keptreads/wire/ReadGroup", "equals", "(Ljava/lang/Object;)Z"⟩ : MethodName)) (z := (⟨"com/example/kept_reads/keptreads/wire/ReadGroup", "equals", "(Ljava/lang/Object;)Z"⟩ : MethodName)) hown (mvT hZ (hw _ (List.mem_of_getElem? (i := 21) rfl))) (mvT hZ (hw _ (List.mem_of_getElem? (i := 22) rfl))) (notFace_of_selects (args := #[]) (mvT hZ (hw _ (List.mem_of_getElem? (i := 24) rfl)))) (mvT hZ (hw _ (List.mem_of_getElem? (i := 24) rfl))) (mvT hZ (hw _ (List.mem_of_getElem? (i := 23) rfl))) (by decide) (backOf (W := 0) (rmeqS l Z a0 hw [] b200 b200 T212.heap n0 Z213 (show b200 = b200 from rfl)) hZ (hw _ (List.mem_of_getElem? (i := 25) rfl)) (hw _ (List.mem_of_getElem? (i := 10) rfl)) (by decide) (by decide)) q215a q215c (g := (mkF m 93 #[.val (.long P0), .second, .val (.int P1), .val (.long P2), .second, .val (.int P3), .val (.int P4), .val (.long (tf1_0 P0)), .second, .val (.int (tf2_0 P1)), .val (.long (tf1_0 P0)), .second, .val (.int (tf2_0 P3)), .val (.ref b200), .val (.ref b206), .val (.int (((P4.toUInt32 >>> ((2 : Int32) &&& 31).toUInt32).toInt32) &&& (3 : Int32))), .unset] [(.ref b200), (.ref b200)])) rfl (by rw [hml]; rfl) (Steps.refl _) (argsL := [(.ref b200)]) (rest := []) (lenOf pd_0_3 rfl) rfl (by show 2 * 0 + _ ≤ _; exact Nat.le_of_eq rfl) (hb hby at_93) (fun _ _ => ⟨rfl, rfl, (by decide : 2 + 0 ≤ _), (by decide : 4 + 0 ≤ _)⟩)
        dsimp only [Pt.U, Pt.locs, Pt.cells, Pt.slots] at X215 l215 y215 z215 st215 hQ215
        subst l215 y215 z215
        obtain ⟨rfl, N215q, K215⟩ := hQ215
        have N215 := Fr.app N212 N215q
        have pre217 : ∀ t, Steps p.tables e below (T215.setTop (mkF m 96 #[.val (.long P0), .second, .val (.int P1), .val (.long P2), .second, .val (.int P3), .val (.int P4), .val (.long (tf1_0 P0)), .second, .val (.int (tf2_0 P1)), .val (.long (tf1_0 P0)), .second, .val (.int (tf2_0 P3)), .val (.ref b200), .val (.ref b206), .val (.int (((P4.toUInt32 >>> ((2 : Int32) &&& 31).toUInt32).toInt32) &&& (3 : Int32))), .unset] [(.int (1 : Int32))])) t → Steps p.tables e below (s₁.setTop (entryFrame m #[(.long P0), (.int P1), (.long P2), (.int P3), (.int P4)] maxLocals)) t := fun t kt => pre214 t (by
            show Steps p.tables e below (T212.setTop (mkF m 86 #[.val (.long P0), .second, .val (.int P1), .val (.long P2), .second, .val (.int P3), .val (.int P4), .val (.long (tf1_0 P0)), .second, .val (.int (tf2_0 P1)), .val (.long (tf1_0 P0)), .second, .val (.int (tf2_0 P3)), .val (.ref b200), .val (.ref b206), .val (.int (((P4.toUInt32 >>> ((2 : Int32) &&& 31).toUInt32).toInt32) &&& (3 : Int32))), .unset] [(.int (1 : Int32)), (.int (((P4.toUInt32 >>> ((2 : Int32) &&& 31).toUInt32).toInt32) &&& (3 : Int32)))])) _
            refine XS.icmpNo X212.here hx rfl (hb hby at_86) rfl (teq hc86).2 ?_
            show Steps p.tables e below (T212.setTop (mkF m 89 #[.val (.long P0), .second, .val (.int P1), .val (.long P2), .second, .val (.int P3), .val (.int P4), .val (.long (tf1_0 P0)), .second, .val (.int (tf2_0 P1)), .val (.long (tf1_0 P0)), .second, .val (.int (tf2_0 P3)), .val (.ref b200), .val (.ref b206), .val (.int (((P4.toUInt32 >>> ((2 : Int32) &&& 31).toUInt32).toInt32) &&& (3 : Int32))), .unset] [])) _
            refine XS.aload X212.here hx rfl (hb hby at_89) rfl rfl ?_
            show Steps p.tables e below (T212.setTop (mkF m 91 #[.val (.long P0), .second, .val (.int P1), .val (.long P2), .second, .val (.int P3), .val (.int P4), .val (.long (tf1_0 P0)), .second, .val (.int (tf2_0 P1)), .val (.long (tf1_0 P0)), .second, .val (.int (tf2_0 P3)), .val (.ref b200), .val (.ref b206), .val (.int (((P4.toUInt32 >>> ((2 : Int32) &&& 31).toUInt32).toInt32) &&& (3 : Int32))), .unset] [(.ref b200)])) _
            refine XS.aload X212.here hx rfl (hb hby at_91) rfl rfl ?_
            show Steps p.tables e below (T212.setTop (mkF m 93 #[.val (.long P0), .second, .val (.int P1), .val (.long P2), .second, .val (.int P3), .val (.int P4), .val (.long (tf1_0 P0)), .second, .val (.int (tf2_0 P1)), .val (.long (tf1_0 P0)), .second, .val (.int (tf2_0 P3)), .val (.ref b200), .val (.ref b206), .val (.int (((P4.toUInt32 >>> ((2 : Int32) &&& 31).toUInt32).toInt32) &&& (3 : Int32))), .unset] [(.ref b200), (.ref b200)])) _
            refine st215.trans ?_
            exact kt)
        obtain ⟨fs, hr, hrun, hended, hW, hsame⟩ := X215.leave (v := some (.int (1 : Int32))) (fun h => by rw [Bd.returns] at h; cases h)
        refine ⟨_, _, pre217 _ ?_, hrun, hended, _, _, rfl, ?_, ⟨_, rfl⟩, hW, hsame.mono (by decide) (by decide)⟩
        · show Steps p.tables e below (T215.setTop (mkF m 96 #[.val (.long P0), .second, .val (.int P1), .val (.long P2), .second, .val (.int P3), .val (.int P4), .val (.long (tf1_0 P0)), .second, .val (.int (tf2_0 P1)), .val (.long (tf1_0 P0)), .second, .val (.int (tf2_0 P3)), .val (.ref b200), .val (.ref b206), .val (.int (((P4.toUInt32 >>> ((2 : Int32) &&& 31).toUInt32).toInt32) &&& (3 : Int32))), .unset] [(.int (1 : Int32))])) _
          exact retN X215 hx (t := .boolean) Bd.returns (by simp) (hb hby at_96) hr
        · show Q0 Z P0 P1 P2 P3 P4 U0 h0 n0 _ T215.heap _
          rw [K215]
          exact ⟨rfl, N215⟩
      · have pre218 : ∀ t, Steps p.tables e below (T212.setTop (mkF m 100 #[.val (.long P0), .second, .val (.int P1), .val (.long P2), .second, .val (.int P3), .val (.int P4), .val (.long (tf1_0 P0)), .second, .val (.int (tf2_0 P1)), .val (.long (tf1_0 P0)), .second, .val (.int (tf2_0 P3)), .val (.ref b200), .val (.ref b206), .val (.int (((P4.toUInt32 >>> ((2 : Int32) &&& 31).toUInt32).toInt32) &&& (3 : Int32))), .unset] [(.int (2 : Int32)), (.int (((P4.toUInt32 >>> ((2 : Int32) &&& 31).toUInt32).toInt32) &&& (3 : Int32)))])) t → Steps p.tables e below (s₁.setTop (entryFrame m #[(.long P0), (.int P1), (.long P2), (.int P3), (.int P4)] maxLocals)) t := fun t kt => pre214 t (by
            show Steps p.tables e below (T212.setTop (mkF m 86 #[.val (.long P0), .second, .val (.int P1), .val (.long P2), .second, .val (.int P3), .val (.int P4), .val (.long (tf1_0 P0)), .second, .val (.int (tf2_0 P1)), .val (.long (tf1_0 P0)), .second, .val (.int (tf2_0 P3)), .val (.ref b200), .val (.ref b206), .val (.int (((P4.toUInt32 >>> ((2 : Int32) &&& 31).toUInt32).toInt32) &&& (3 : Int32))), .unset] [(.int (1 : Int32)), (.int (((P4.toUInt32 >>> ((2 : Int32) &&& 31).toUInt32).toInt32) &&& (3 : Int32)))])) _
            refine XS.icmpYes X212.here hx rfl (pc0 := 86) (pc' := 97) rfl (hb hby at_86) rfl (feq hc86).2 (by decide) (by decide) ?_
            show Steps p.tables e below (T212.setTop (mkF m 97 #[.val (.long P0), .second, .val (.int P1), .val (.long P2), .second, .val (.int P3), .val (.int P4), .val (.long (tf1_0 P0)), .second, .val (.int (tf2_0 P1)), .val (.long (tf1_0 P0)), .second, .val (.int (tf2_0 P3)), .val (.ref b200), .val (.ref b206), .val (.int (((P4.toUInt32 >>> ((2 : Int32) &&& 31).toUInt32).toInt32) &&& (3 : Int32))), .unset] [])) _
            refine XS.iload X212.here hx rfl (hb hby at_97) rfl ?_
            show Steps p.tables e below (T212.setTop (mkF m 99 #[.val (.long P0), .second, .val (.int P1), .val (.long P2), .second, .val (.int P3), .val (.int P4), .val (.long (tf1_0 P0)), .second, .val (.int (tf2_0 P1)), .val (.long (tf1_0 P0)), .second, .val (.int (tf2_0 P3)), .val (.ref b200), .val (.ref b206), .val (.int (((P4.toUInt32 >>> ((2 : Int32) &&& 31).toUInt32).toInt32) &&& (3 : Int32))), .unset] [(.int (((P4.toUInt32 >>> ((2 : Int32) &&& 31).toUInt32).toInt32) &&& (3 : Int32)))])) _
            refine XS.iconst X212.here hx rfl (hb hby at_99) ?_
            exact kt)
        by_cases hc100 : (((P4.toUInt32 >>> ((2 : Int32) &&& 31).toUInt32).toInt32) &&& (3 : Int32)) = (2 : Int32)
        · have c220 : Exa Z T212.heap b200 "com/example/kept_reads/keptreads/wire/ReadGroup" := ((p204_0.ext E206).keep K212)
          obtain ⟨cq219, kq219, q219a, q219b, q219c⟩ := isOf hZ rfl c220
          obtain ⟨_, _, ⟨T219, L219, k219, n219⟩, -, X219, ⟨Lc219, hQ219, l219, y219, z219⟩, st219⟩ := X212.virtualBack hx (y := (⟨"com/example/kept_reads/keptreads/wire/ReadGroup", "equals", "(Ljava/lang/Object;)Z"⟩ : MethodName)) (z := (⟨"com/example/kept_reads/keptreads/wire/ReadGroup", "equals", "(Ljava/lang/Object;)Z"⟩ : MethodName)) hown (mvT hZ (hw _ (List.mem_of_getElem? (i := 21) rfl))) (mvT hZ (hw _ (List.mem_of_getElem? (i := 22) rfl))) (notFace_of_selects (args := #[]) (mvT hZ (hw _ (List.mem_of_getElem? (i := 24) rfl)))) (mvT hZ (hw _ (List.mem_of_getElem? (i := 24) rfl))) (mvT hZ (hw _ (List.mem_of_getElem? (i := 23) rfl))) (by decide) (backOf (W := 0) (rmeqN l Z a0 hw [] b200 T212.heap n0 Z213 ) hZ (hw _ (List.mem_of_getElem? (i := 25) rfl)) (hw _ (List.mem_of_getElem? (i := 10) rfl)) (by decide) (by decide)) q219a q219c (g := (mkF m 106 #[.val (.long P0), .second, .val (.int P1), .val (.long P2), .second, .val (.int P3), .val (.int P4), .val (.long (tf1_0 P0)), .second, .val (.int (tf2_0 P1)), .val (.long (tf1_0 P0)), .second, .val (.int (tf2_0 P3)), .val (.ref b200), .val (.ref b206), .val (.int (((P4.toUInt32 >>> ((2 : Int32) &&& 31).toUInt32).toInt32) &&& (3 : Int32))), .unset] [.null, (.ref b200)])) rfl (by rw [hml]; rfl) (Steps.refl _) (argsL := [.null]) (rest := []) (lenOf pd_0_3 rfl) rfl (by show 2 * 0 + _ ≤ _; exact Nat.le_of_eq rfl) (hb hby at_106) (fun _ _ => ⟨rfl, rfl, (by decide : 2 + 0 ≤ _), (by decide : 4 + 0 ≤ _)⟩)
          dsimp only [Pt.U, Pt.locs, Pt.cells, Pt.slots] at X219 l219 y219 z219 st219 hQ219
          subst l219 y219 z219
          obtain ⟨rfl, N219q, K219⟩ := hQ219
          have N219 := Fr.app N212 N219q
          have pre221 : ∀ t, Steps p.tables e below (T219.setTop (mkF m 117 #[.val (.long P0), .second, .val (.int P1), .val (.long P2), .second, .val (.int P3), .val (.int P4), .val (.long (tf1_0 P0)), .second, .val (.int (tf2_0 P1)), .val (.long (tf1_0 P0)), .second, .val (.int (tf2_0 P3)), .val (.ref b200), .val (.ref b206), .val (.int (((P4.toUInt32 >>> ((2 : Int32) &&& 31).toUInt32).toInt32) &&& (3 : Int32))), .unset] [(.int (1 : Int32))])) t → Steps p.tables e below (s₁.setTop (entryFrame m #[(.long P0), (.int P1), (.long P2), (.int P3), (.int P4)] maxLocals)) t := fun t kt => pre218 t (by
              show Steps p.tables e below (T212.setTop (mkF m 100 #[.val (.long P0), .second, .val (.int P1), .val (.long P2), .second, .val (.int P3), .val (.int P4), .val (.long (tf1_0 P0)), .second, .val (.int (tf2_0 P1)), .val (.long (tf1_0 P0)), .second, .val (.int (tf2_0 P3)), .val (.ref b200), .val (.ref b206), .val (.int (((P4.toUInt32 >>> ((2 : Int32) &&& 31).toUInt32).toInt32) &&& (3 : Int32))), .unset] [(.int (2 : Int32)), (.int (((P4.toUInt32 >>> ((2 : Int32) &&& 31).toUInt32).toInt32) &&& (3 : Int32)))])) _
              refine XS.icmpNo X212.here hx rfl (hb hby at_100) rfl (teq hc100).2 ?_
              show Steps p.tables e below (T212.setTop (mkF m 103 #[.val (.long P0), .second, .val (.int P1), .val (.long P2), .second, .val (.int P3), .val (.int P4), .val (.long (tf1_0 P0)), .second, .val (.int (tf2_0 P1)), .val (.long (tf1_0 P0)), .second, .val (.int (tf2_0 P3)), .val (.ref b200), .val (.ref b206), .val (.int (((P4.toUInt32 >>> ((2 : Int32) &&& 31).toUInt32).toInt32) &&& (3 : Int32))), .unset] [])) _
              refine XS.aload X212.here hx rfl (hb hby at_103) rfl rfl ?_
              show Steps p.tables e below (T212.setTop (mkF m 105 #[.val (.long P0), .second, .val (.int P1), .val (.long P2), .second, .val (.int P3), .val (.int P4), .val (.long (tf1_0 P0)), .second, .val (.int (tf2_0 P1)), .val (.long (tf1_0 P0)), .second, .val (.int (tf2_0 P3)), .val (.ref b200), .val (.ref b206), .val (.int (((P4.toUInt32 >>> ((2 : Int32) &&& 31).toUInt32).toInt32) &&& (3 : Int32))), .unset] [(.ref b200)])) _
              refine XS.aconstNull X212.here hx rfl (hb hby at_105) ?_
              show Steps p.tables e below (T212.setTop (mkF m 106 #[.val (.long P0), .second, .val (.int P1), .val (.long P2), .second, .val (.int P3), .val (.int P4), .val (.long (tf1_0 P0)), .second, .val (.int (tf2_0 P1)), .val (.long (tf1_0 P0)), .second, .val (.int (tf2_0 P3)), .val (.ref b200), .val (.ref b206), .val (.int (((P4.toUInt32 >>> ((2 : Int32) &&& 31).toUInt32).toInt32) &&& (3 : Int32))), .unset] [.null, (.ref b200)])) _
              refine st219.trans ?_
              show Steps p.tables e below (T219.setTop (mkF m 109 #[.val (.long P0), .second, .val (.int P1), .val (.long P2), .second, .val (.int P3), .val (.int P4), .val (.long (tf1_0 P0)), .second, .val (.int (tf2_0 P1)), .val (.long (tf1_0 P0)), .second, .val (.int (tf2_0 P3)), .val (.ref b200), .val (.ref b206), .val (.int (((P4.toUInt32 >>> ((2 : Int32) &&& 31).toUInt32).toInt32) &&& (3 : Int32))), .unset] [(.int (0 : Int32))])) _
              refine XS.ifNo X219.here hx rfl (hb hby at_109) rfl ((if0 _ _).trans (teq (show (0 : Int32) = (0 : Int32) from (by decide))).2) ?_
              show Steps p.tables e below (T219.setTop (mkF m 112 #[.val (.long P0), .second, .val (.int P1), .val (.long P2), .second, .val (.int P3), .val (.int P4), .val (.long (tf1_0 P0)), .second, .val (.int (tf2_0 P1)), .val (.long (tf1_0 P0)), .second, .val (.int (tf2_0 P3)), .val (.ref b200), .val (.ref b206), .val (.int (((P4.toUInt32 >>> ((2 : Int32) &&& 31).toUInt32).toInt32) &&& (3 : Int32))), .unset] [])) _
              refine XS.iconst X219.here hx rfl (hb hby at_112) ?_
              show Steps p.tables e below (T219.setTop (mkF m 113 #[.val (.long P0), .second, .val (.int P1), .val (.long P2), .second, .val (.int P3), .val (.int P4), .val (.long (tf1_0 P0)), .second, .val (.int (tf2_0 P1)), .val (.long (tf1_0 P0)), .second, .val (.int (tf2_0 P3)), .val (.ref b200), .val (.ref b206), .val (.int (((P4.toUInt32 >>> ((2 : Int32) &&& 31).toUInt32).toInt32) &&& (3 : Int32))), .unset] [(.int (1 : Int32))])) _
              refine XS.goto X219.here hx rfl (pc0 := 113) (pc' := 117) rfl (hb hby at_113) (by decide) (by decide) ?_
              exact kt)
          obtain ⟨fs, hr, hrun, hended, hW, hsame⟩ := X219.leave (v := some (.int (1 : Int32))) (fun h => by rw [Bd.returns] at h; cases h)
          refine ⟨_, _, pre221 _ ?_, hrun, hended, _, _, rfl, ?_, ⟨_, rfl⟩, hW, hsame.mono (by decide) (by decide)⟩
          · show Steps p.tables e below (T219.setTop (mkF m 117 #[.val (.long P0), .second, .val (.int P1), .val (.long P2), .second, .val (.int P3), .val (.int P4), .val (.long (tf1_0 P0)), .second, .val (.int (tf2_0 P1)), .val (.long (tf1_0 P0)), .second, .val (.int (tf2_0 P3)), .val (.ref b200), .val (.ref b206), .val (.int (((P4.toUInt32 >>> ((2 : Int32) &&& 31).toUInt32).toInt32) &&& (3 : Int32))), .unset] [(.int (1 : Int32))])) _
            exact retN X219 hx (t := .boolean) Bd.returns (by simp) (hb hby at_117) hr
          · show Q0 Z P0 P1 P2 P3 P4 U0 h0 n0 _ T219.heap _
            rw [K219]
            exact ⟨rfl, N219⟩
        · have pre222 : ∀ t, Steps p.tables e below (T212.setTop (mkF m 121 #[.val (.long P0), .second, .val (.int P1), .val (.long P2), .second, .val (.int P3), .val (.int P4), .val (.long (tf1_0 P0)), .second, .val (.int (tf2_0 P1)), .val (.long (tf1_0 P0)), .second, .val (.int (tf2_0 P3)), .val (.ref b200), .val (.ref b206), .val (.int (((P4.toUInt32 >>> ((2 : Int32) &&& 31).toUInt32).toInt32) &&& (3 : Int32))), .unset] [(.int (3 : Int32)), (.int (((P4.toUInt32 >>> ((2 : Int32) &&& 31).toUInt32).toInt32) &&& (3 : Int32)))])) t → Steps p.tables e below (s₁.setTop (entryFrame m #[(.long P0), (.int P1), (.long P2), (.int P3), (.int P4)] maxLocals)) t := fun t kt => pre218 t (by
              show Steps p.tables e below (T212.setTop (mkF m 100 #[.val (.long P0), .second, .val (.int P1), .val (.long P2), .second, .val (.int P3), .val (.int P4), .val (.long (tf1_0 P0)), .second, .val (.int (tf2_0 P1)), .val (.long (tf1_0 P0)), .second, .val (.int (tf2_0 P3)), .val (.ref b200), .val (.ref b206), .val (.int (((P4.toUInt32 >>> ((2 : Int32) &&& 31).toUInt32).toInt32) &&& (3 : Int32))), .unset] [(.int (2 : Int32)), (.int (((P4.toUInt32 >>> ((2 : Int32) &&& 31).toUInt32).toInt32) &&& (3 : Int32)))])) _
              refine XS.icmpYes X212.here hx rfl (pc0 := 100) (pc' := 118) rfl (hb hby at_100) rfl (feq hc100).2 (by decide) (by decide) ?_
              show Steps p.tables e below (T212.setTop (mkF m 118 #[.val (.long P0), .second, .val (.int P1), .val (.long P2), .second, .val (.int P3), .val (.int P4), .val (.long (tf1_0 P0)), .second, .val (.int (tf2_0 P1)), .val (.long (tf1_0 P0)), .second, .val (.int (tf2_0 P3)), .val (.ref b200), .val (.ref b206), .val (.int (((P4.toUInt32 >>> ((2 : Int32) &&& 31).toUInt32).toInt32) &&& (3 : Int32))), .unset] [])) _
              refine XS.iload X212.here hx rfl (hb hby at_118) rfl ?_
              show Steps p.tables e below (T212.setTop (mkF m 120 #[.val (.long P0), .second, .val (.int P1), .val (.long P2), .second, .val (.int P3), .val (.int P4), .val (.long (tf1_0 P0)), .second, .val (.int (tf2_0 P1)), .val (.long (tf1_0 P0)), .second, .val (.int (tf2_0 P3)), .val (.ref b200), .val (.ref b206), .val (.int (((P4.toUInt32 >>> ((2 : Int32) &&& 31).toUInt32).toInt32) &&& (3 : Int32))), .unset] [(.int (((P4.toUInt32 >>> ((2 : Int32) &&& 31).toUInt32).toInt32) &&& (3 : Int32)))])) _
              refine XS.iconst X212.here hx rfl (hb hby at_120) ?_
              exact kt)
          by_cases hc121 : (((P4.toUInt32 >>> ((2 : Int32) &&& 31).toUInt32).toInt32) &&& (3 : Int32)) = (3 : Int32)
          · have c223 : own_Cac Z T212.heap "java/lang/Long" U0 := ((c208.ext E206).keep K212 (ninS ne207 nin0))
            obtain ⟨_, _, ⟨T224, L224, k224, n224⟩, -, X224, ⟨Lc224, hQ224, l224, y224, z224⟩, st224⟩ := Jvm.LawKit.callS X212 hx (y := (⟨"java/lang/Long", "valueOf", "(J)Ljava/lang/Long;"⟩ : MethodName)) hown (mvT hZ (hw _ (List.mem_of_getElem? (i := 28) rfl))) (mvT hZ (hw _ (List.mem_of_getElem? (i := 29) rfl))) (mvT hZ (hw _ (List.mem_of_getElem? (i := 30) rfl))) (mvT hZ (hw _ (List.mem_of_getElem? (i := 31) rfl))) (by decide) (backOf (W := 0) (rm6 l Z a0 hw [] (tf1_0 P0) U0 T212.heap n0 Z213 ss212_0 c223) hZ (hw _ (List.mem_of_getElem? (i := 31) rfl)) (hw _ (List.mem_of_getElem? (i := 30) rfl)) (by decide) (by decide)) (g := (mkF m 126 #[.val (.long P0), .second, .val (.int P1), .val (.long P2), .second, .val (.int P3), .val (.int P4), .val (.long (tf1_0 P0)), .second, .val (.int (tf2_0 P1)), .val (.long (tf1_0 P0)), .second, .val (.int (tf2_0 P3)), .val (.ref b200), .val (.ref b206), .val (.int (((P4.toUInt32 >>> ((2 : Int32) &&& 31).toUInt32).toInt32) &&& (3 : Int32))), .unset] [(.long (tf1_0 P0))])) rfl (by rw [hml]; rfl) (argsL := [(.long (tf1_0 P0))]) (rest := []) (lenOf pd_0_4 rfl) rfl (by show 2 * 0 + _ ≤ _; exact Nat.le_of_eq rfl) (hb hby at_126) (fun _ _ => ⟨rfl, rfl, (by decide : 2 + 1 ≤ _), (by decide : 4 + 1 ≤ _)⟩)
            dsimp only [Pt.U, Pt.locs, Pt.cells, Pt.slots] at X224 l224 y224 z224 st224 hQ224
            subst l224 y224 z224
            obtain ⟨x224_R0, rfl, N224q, K224, p224_0⟩ := hQ224
            have N224 := Fr.app N212 N224q
            have Z225 : n0 ≤ T224.heap.size := Nat.le_trans Z213 K224.1
            have ss224_0 : Sta Z T224.heap "java/lang/Long$LongCache" "cache" "[Ljava/lang/Long;" (.ref U0) := own_sta_keep ss212_0 K224 all0
            have c226 : Exa Z T224.heap b200 "com/example/kept_reads/keptreads/wire/ReadGroup" := (((p204_0.ext E206).keep K212).keep K224)
            obtain ⟨cq227, kq227, q227a, q227b, q227c⟩ := isOf hZ rfl c226
            obtain ⟨_, _, ⟨T227, L227, k227, n227⟩, -, X227, ⟨Lc227, hQ227, l227, y227, z227⟩, st227⟩ := X224.virtualBack hx (y := (⟨"com/example/kept_reads/keptreads/wire/ReadGroup", "equals", "(Ljava/lang/Object;)Z"⟩ : MethodName)) (z := (⟨"com/example/kept_reads/keptreads/wire/ReadGroup", "equals", "(Ljava/lang/Object;)Z"⟩ : MethodName)) hown (mvT hZ (hw _ (List.mem_of_getElem? (i := 21) rfl))) (mvT hZ (hw _ (List.mem_of_getElem? (i := 22) rfl))) (notFace_of_selects (args := #[]) (mvT hZ (hw _ (List.mem_of_getElem? (i := 24) rfl)))) (mvT hZ (hw _ (List.mem_of_getElem? (i := 24) rfl))) (mvT hZ (hw _ (List.mem_of_getElem? (i := 23) rfl))) (by decide) (backOf (W := 0) (rmeqL l Z a0 hw [] b200 x224_R0 T224.heap n0 Z225 p224_0 (show b200 ≠ x224_R0 from (ne_exa c226 p224_0 (by decide)))) hZ (hw _ (List.mem_of_getElem? (i := 25) rfl)) (hw _ (List.mem_of_getElem? (i := 10) rfl)) (by decide) (by decide)) q227a q227c (g := (mkF m 135 #[.val (.long P0), .second, .val (.int P1), .val (.long P2), .second, .val (.int P3), .val (.int P4), .val (.long (tf1_0 P0)), .second, .val (.int (tf2_0 P1)), .val (.long (tf1_0 P0)), .second, .val (.int (tf2_0 P3)), .val (.ref b200), .val (.ref b206), .val (.int (((P4.toUInt32 >>> ((2 : Int32) &&& 31).toUInt32).toInt32) &&& (3 : Int32))), .val (.ref x224_R0)] [(.ref x224_R0), (.ref b200)])) rfl (by rw [hml]; rfl) (Steps.refl _) (argsL := [(.ref x224_R0)]) (rest := []) (lenOf pd_0_3 rfl) rfl (by show 2 * 0 + _ ≤ _; exact Nat.le_of_eq rfl) (hb hby at_135) (fun _ _ => ⟨rfl, rfl, (by decide : 3 + 0 ≤ _), (by decide : 5 + 0 ≤ _)⟩)
            dsimp only [Pt.U, Pt.locs, Pt.cells, Pt.slots] at X227 l227 y227 z227 st227 hQ227
            subst l227 y227 z227
            obtain ⟨rfl, N227q, K227⟩ := hQ227
            have N227 := Fr.app N224 N227q
            have pre228 : ∀ t, Steps p.tables e below (T227.setTop (mkF m 146 #[.val (.long P0), .second, .val (.int P1), .val (.long P2), .second, .val (.int P3), .val (.int P4), .val (.long (tf1_0 P0)), .second, .val (.int (tf2_0 P1)), .val (.long (tf1_0 P0)), .second, .val (.int (tf2_0 P3)), .val (.ref b200), .val (.ref b206), .val (.int (((P4.toUInt32 >>> ((2 : Int32) &&& 31).toUInt32).toInt32) &&& (3 : Int32))), .val (.ref x224_R0)] [(.int (1 : Int32))])) t → Steps p.tables e below (s₁.setTop (entryFrame m #[(.long P0), (.int P1), (.long P2), (.int P3), (.int P4)] maxLocals)) t := fun t kt => pre222 t (by
                show Steps p.tables e below (T212.setTop (mkF m 121 #[.val (.long P0), .second, .val (.int P1), .val (.long P2), .second, .val (.int P3), .val (.int P4), .val (.long (tf1_0 P0)), .second, .val (.int (tf2_0 P1)), .val (.long (tf1_0 P0)), .second, .val (.int (tf2_0 P3)), .val (.ref b200), .val (.ref b206), .val (.int (((P4.toUInt32 >>> ((2 : Int32) &&& 31).toUInt32).toInt32) &&& (3 : Int32))), .unset] [(.int (3 : Int32)), (.int (((P4.toUInt32 >>> ((2 : Int32) &&& 31).toUInt32).toInt32) &&& (3 : Int32)))])) _
                refine XS.icmpNo X212.here hx rfl (hb hby at_121) rfl (teq hc121).2 ?_
                show Steps p.tables e below (T212.setTop (mkF m 124 #[.val (.long P0), .second, .val (.int P1), .val (.long P2), .second, .val (.int P3), .val (.int P4), .val (.long (tf1_0 P0)), .second, .val (.int (tf2_0 P1)), .val (.long (tf1_0 P0)), .second, .val (.int (tf2_0 P3)), .val (.ref b200), .val (.ref b206), .val (.int (((P4.toUInt32 >>> ((2 : Int32) &&& 31).toUInt32).toInt32) &&& (3 : Int32))), .unset] [])) _
                refine XS.lload X212.here hx rfl (hb hby at_124) rfl ?_
                show Steps p.tables e below (T212.setTop (mkF m 126 #[.val (.long P0), .second, .val (.int P1), .val (.long P2), .second, .val (.int P3), .val (.int P4), .val (.long (tf1_0 P0)), .second, .val (.int (tf2_0 P1)), .val (.long (tf1_0 P0)), .second, .val (.int (tf2_0 P3)), .val (.ref b200), .val (.ref b206), .val (.int (((P4.toUInt32 >>> ((2 : Int32) &&& 31).toUInt32).toInt32) &&& (3 : Int32))), .unset] [(.long (tf1_0 P0))])) _
                refine st224 _ ?_
                show Steps p.tables e below (T224.setTop (mkF m 129 #[.val (.long P0), .second, .val (.int P1), .val (.long P2), .second, .val (.int P3), .val (.int P4), .val (.long (tf1_0 P0)), .second, .val (.int (tf2_0 P1)), .val (.long (tf1_0 P0)), .second, .val (.int (tf2_0 P3)), .val (.ref b200), .val (.ref b206), .val (.int (((P4.toUInt32 >>> ((2 : Int32) &&& 31).toUInt32).toInt32) &&& (3 : Int32))), .unset] [(.ref x224_R0)])) _
                refine XS.astore X224.here hx rfl (hb hby at_129) rfl rfl (l' := #[.val (.long P0), .second, .val (.int P1), .val (.long P2), .second, .val (.int P3), .val (.int P4), .val (.long (tf1_0 P0)), .second, .val (.int (tf2_0 P1)), .val (.long (tf1_0 P0)), .second, .val (.int (tf2_0 P3)), .val (.ref b200), .val (.ref b206), .val (.int (((P4.toUInt32 >>> ((2 : Int32) &&& 31).toUInt32).toInt32) &&& (3 : Int32))), .val (.ref x224_R0)]) rfl ?_
                show Steps p.tables e below (T224.setTop (mkF m 131 #[.val (.long P0), .second, .val (.int P1), .val (.long P2), .second, .val (.int P3), .val (.int P4), .val (.long (tf1_0 P0)), .second, .val (.int (tf2_0 P1)), .val (.long (tf1_0 P0)), .second, .val (.int (tf2_0 P3)), .val (.ref b200), .val (.ref b206), .val (.int (((P4.toUInt32 >>> ((2 : Int32) &&& 31).toUInt32).toInt32) &&& (3 : Int32))), .val (.ref x224_R0)] [])) _
                refine XS.aload X224.here hx rfl (hb hby at_131) rfl rfl ?_
                show Steps p.tables e below (T224.setTop (mkF m 133 #[.val (.long P0), .second, .val (.int P1), .val (.long P2), .second, .val (.int P3), .val (.int P4), .val (.long (tf1_0 P0)), .second, .val (.int (tf2_0 P1)), .val (.long (tf1_0 P0)), .second, .val (.int (tf2_0 P3)), .val (.ref b200), .val (.ref b206), .val (.int (((P4.toUInt32 >>> ((2 : Int32) &&& 31).toUInt32).toInt32) &&& (3 : Int32))), .val (.ref x224_R0)] [(.ref b200)])) _
                refine XS.aload X224.here hx rfl (hb hby at_133) rfl rfl ?_
                show Steps p.tables e below (T224.setTop (mkF m 135 #[.val (.long P0), .second, .val (.int P1), .val (.long P2), .second, .val (.int P3), .val (.int P4), .val (.long (tf1_0 P0)), .second, .val (.int (tf2_0 P1)), .val (.long (tf1_0 P0)), .second, .val (.int (tf2_0 P3)), .val (.ref b200), .val (.ref b206), .val (.int (((P4.toUInt32 >>> ((2 : Int32) &&& 31).toUInt32).toInt32) &&& (3 : Int32))), .val (.ref x224_R0)] [(.ref x224_R0), (.ref b200)])) _
                refine st227.trans ?_
                show Steps p.tables e below (T227.setTop (mkF m 138 #[.val (.long P0), .second, .val (.int P1), .val (.long P2), .second, .val (.int P3), .val (.int P4), .val (.long (tf1_0 P0)), .second, .val (.int (tf2_0 P1)), .val (.long (tf1_0 P0)), .second, .val (.int (tf2_0 P3)), .val (.ref b200), .val (.ref b206), .val (.int (((P4.toUInt32 >>> ((2 : Int32) &&& 31).toUInt32).toInt32) &&& (3 : Int32))), .val (.ref x224_R0)] [(.int (0 : Int32))])) _
                refine XS.ifNo X227.here hx rfl (hb hby at_138) rfl ((if0 _ _).trans (teq (show (0 : Int32) = (0 : Int32) from (by decide))).2) ?_
                show Steps p.tables e below (T227.setTop (mkF m 141 #[.val (.long P0), .second, .val (.int P1), .val (.long P2), .second, .val (.int P3), .val (.int P4), .val (.long (tf1_0 P0)), .second, .val (.int (tf2_0 P1)), .val (.long (tf1_0 P0)), .second, .val (.int (tf2_0 P3)), .val (.ref b200), .val (.ref b206), .val (.int (((P4.toUInt32 >>> ((2 : Int32) &&& 31).toUInt32).toInt32) &&& (3 : Int32))), .val (.ref x224_R0)] [])) _
                refine XS.iconst X227.here hx rfl (hb hby at_141) ?_
                show Steps p.tables e below (T227.setTop (mkF m 142 #[.val (.long P0), .second, .val (.int P1), .val (.long P2), .second, .val (.int P3), .val (.int P4), .val (.long (tf1_0 P0)), .second, .val (.int (tf2_0 P1)), .val (.long (tf1_0 P0)), .second, .val (.int (tf2_0 P3)), .val (.ref b200), .val (.ref b206), .val (.int (((P4.toUInt32 >>> ((2 : Int32) &&& 31).toUInt32).toInt32) &&& (3 : Int32))), .val (.ref x224_R0)] [(.int (1 : Int32))])) _
                refine XS.goto X227.here hx rfl (pc0 := 142) (pc' := 146) rfl (hb hby at_142) (by decide) (by decide) ?_
                exact kt)
            obtain ⟨fs, hr, hrun, hended, hW, hsame⟩ := X227.leave (v := some (.int (1 : Int32))) (fun h => by rw [Bd.returns] at h; cases h)
            refine ⟨_, _, pre228 _ ?_, hrun, hended, _, _, rfl, ?_, ⟨_, rfl⟩, hW, hsame.mono (by decide) (by decide)⟩
            · show Steps p.tables e below (T227.setTop (mkF m 146 #[.val (.long P0), .second, .val (.int P1), .val (.long P2), .second, .val (.int P3), .val (.int P4), .val (.long (tf1_0 P0)), .second, .val (.int (tf2_0 P1)), .val (.long (tf1_0 P0)), .second, .val (.int (tf2_0 P3)), .val (.ref b200), .val (.ref b206), .val (.int (((P4.toUInt32 >>> ((2 : Int32) &&& 31).toUInt32).toInt32) &&& (3 : Int32))), .val (.ref x224_R0)] [(.int (1 : Int32))])) _
              exact retN X227 hx (t := .boolean) Bd.returns (by simp) (hb hby at_146) hr
            · show Q0 Z P0 P1 P2 P3 P4 U0 h0 n0 _ T227.heap _
              rw [K227]
              exact ⟨rfl, N227⟩
          · have pre229 : ∀ t, Steps p.tables e below (T212.setTop (mkF m 159 #[.val (.long P0), .second, .val (.int P1), .val (.long P2), .second, .val (.int P3), .val (.int P4), .val (.long (tf1_0 P0)), .second, .val (.int (tf2_0 P1)), .val (.long (tf1_0 P0)), .second, .val (.int (tf2_0 P3)), .val (.ref b200), .val (.ref b206), .val (.int (((P4.toUInt32 >>> ((2 : Int32) &&& 31).toUInt32).toInt32) &&& (3 : Int32))), .unset] [(.int (tf2_0 P3)), (.int (tf2_0 P1))])) t → Steps p.tables e below (s₁.setTop (entryFrame m #[(.long P0), (.int P1), (.long P2), (.int P3), (.int P4)] maxLocals)) t := fun t kt => pre222 t (by
                show Steps p.tables e below (T212.setTop (mkF m 121 #[.val (.long P0), .second, .val (.int P1), .val (.long P2), .second, .val (.int P3), .val (.int P4), .val (.long (tf1_0 P0)), .second, .val (.int (tf2_0 P1)), .val (.long (tf1_0 P0)), .second, .val (.int (tf2_0 P3)), .val (.ref b200), .val (.ref b206), .val (.int (((P4.toUInt32 >>> ((2 : Int32) &&& 31).toUInt32).toInt32) &&& (3 : Int32))), .unset] [(.int (3 : Int32)), (.int (((P4.toUInt32 >>> ((2 : Int32) &&& 31).toUInt32).toInt32) &&& (3 : Int32)))])) _
                refine XS.icmpYes X212.here hx rfl (pc0 := 121) (pc' := 147) rfl (hb hby at_121) rfl (feq hc121).2 (by decide) (by decide) ?_
                show Steps p.tables e below (T212.setTop (mkF m 147 #[.val (.long P0), .second, .val (.int P1), .val (.long P2), .second, .val (.int P3), .val (.int P4), .val (.long (tf1_0 P0)), .second, .val (.int (tf2_0 P1)), .val (.long (tf1_0 P0)), .second, .val (.int (tf2_0 P3)), .val (.ref b200), .val (.ref b206), .val (.int (((P4.toUInt32 >>> ((2 : Int32) &&& 31).toUInt32).toInt32) &&& (3 : Int32))), .unset] [])) _
                refine XS.lload X212.here hx rfl (hb hby at_147) rfl ?_
                show Steps p.tables e below (T212.setTop (mkF m 149 #[.val (.long P0), .second, .val (.int P1), .val (.long P2), .second, .val (.int P3), .val (.int P4), .val (.long (tf1_0 P0)), .second, .val (.int (tf2_0 P1)), .val (.long (tf1_0 P0)), .second, .val (.int (tf2_0 P3)), .val (.ref b200), .val (.ref b206), .val (.int (((P4.toUInt32 >>> ((2 : Int32) &&& 31).toUInt32).toInt32) &&& (3 : Int32))), .unset] [(.long (tf1_0 P0))])) _
                refine XS.lload X212.here hx rfl (hb hby at_149) rfl ?_
                show Steps p.tables e below (T212.setTop (mkF m 151 #[.val (.long P0), .second, .val (.int P1), .val (.long P2), .second, .val (.int P3), .val (.int P4), .val (.long (tf1_0 P0)), .second, .val (.int (tf2_0 P1)), .val (.long (tf1_0 P0)), .second, .val (.int (tf2_0 P3)), .val (.ref b200), .val (.ref b206), .val (.int (((P4.toUInt32 >>> ((2 : Int32) &&& 31).toUInt32).toInt32) &&& (3 : Int32))), .unset] [(.long (tf1_0 P0)), (.long (tf1_0 P0))])) _
                refine XS.lcmp X212.here hx rfl (hb hby at_151) rfl ?_
                show Steps p.tables e below (T212.setTop (mkF m 152 #[.val (.long P0), .second, .val (.int P1), .val (.long P2), .second, .val (.int P3), .val (.int P4), .val (.long (tf1_0 P0)), .second, .val (.int (tf2_0 P1)), .val (.long (tf1_0 P0)), .second, .val (.int (tf2_0 P3)), .val (.ref b200), .val (.ref b206), .val (.int (((P4.toUInt32 >>> ((2 : Int32) &&& 31).toUInt32).toInt32) &&& (3 : Int32))), .unset] [(.int (lcmpW (tf1_0 P0) (tf1_0 P0)))])) _
                refine XS.ifNo X212.here hx rfl (hb hby at_152) rfl ((if0 _ _).trans (teq ((lw_eq (tf1_0 P0) (tf1_0 P0)).mpr (show (tf1_0 P0) = (tf1_0 P0) from rfl))).2) ?_
                show Steps p.tables e below (T212.setTop (mkF m 155 #[.val (.long P0), .second, .val (.int P1), .val (.long P2), .second, .val (.int P3), .val (.int P4), .val (.long (tf1_0 P0)), .second, .val (.int (tf2_0 P1)), .val (.long (tf1_0 P0)), .second, .val (.int (tf2_0 P3)), .val (.ref b200), .val (.ref b206), .val (.int (((P4.toUInt32 >>> ((2 : Int32) &&& 31).toUInt32).toInt32) &&& (3 : Int32))), .unset] [])) _
                refine XS.iload X212.here hx rfl (hb hby at_155) rfl ?_
                show Steps p.tables e below (T212.setTop (mkF m 157 #[.val (.long P0), .second, .val (.int P1), .val (.long P2), .second, .val (.int P3), .val (.int P4), .val (.long (tf1_0 P0)), .second, .val (.int (tf2_0 P1)), .val (.long (tf1_0 P0)), .second, .val (.int (tf2_0 P3)), .val (.ref b200), .val (.ref b206), .val (.int (((P4.toUInt32 >>> ((2 : Int32) &&& 31).toUInt32).toInt32) &&& (3 : Int32))), .unset] [(.int (tf2_0 P1))])) _
                refine XS.iload X212.here hx rfl (hb hby at_157) rfl ?_
                exact kt)
            by_cases hc159 : (tf2_0 P1) = (tf2_0 P3)
            · have c230 : Fld Z T212.heap b200 "com/example/kept_reads/keptreads/wire/ReadGroup" "transaction" "J" (.long (tf1_0 P0)) := ((p204_1.ext E206).keep K212 (ninS ne209 nin0))
              have c231 : Fld Z T212.heap b200 "com/example/kept_reads/keptreads/wire/ReadGroup" "call" "I" (.int (tf2_0 P1)) := ((p204_2.ext E206).keep K212 (ninS ne209 nin0))
              have c233 : Exa Z T212.heap b200 "com/example/kept_reads/keptreads/wire/ReadGroup" := ((p204_0.ext E206).keep K212)
              obtain ⟨cq232, kq232, q232a, q232b, q232c⟩ := isOf hZ rfl c233
              obtain ⟨_, _, ⟨T232, L232, k232, n232⟩, -, X232, ⟨Lc232, hQ232, l232, y232, z232⟩, st232⟩ := X212.virtualBack hx (y := (⟨"com/example/kept_reads/keptreads/wire/ReadGroup", "equals", "(Ljava/lang/Object;)Z"⟩ : MethodName)) (z := (⟨"com/example/kept_reads/keptreads/wire/ReadGroup", "equals", "(Ljava/lang/Object;)Z"⟩ : MethodName)) hown (mvT hZ (hw _ (List.mem_of_getElem? (i := 21) rfl))) (mvT hZ (hw _ (List.mem_of_getElem? (i := 22) rfl))) (notFace_of_selects (args := #[]) (mvT hZ (hw _ (List.mem_of_getElem? (i := 24) rfl)))) (mvT hZ (hw _ (List.mem_of_getElem? (i := 24) rfl))) (mvT hZ (hw _ (List.mem_of_getElem? (i := 23) rfl))) (by decide) (backOf (W := 0) (rmeqR l Z a0 hw [] b200 b206 (tf1_0 P0) (tf2_0 P1) (tf1_0 P0) (tf2_0 P3) T212.heap n0 Z213 c230 c231 p212_1 p212_2 p212_0 (show b200 ≠ b206 from ne209)) hZ (hw _ (List.mem_of_getElem? (i := 25) rfl)) (hw _ (List.mem_of_getElem? (i := 10) rfl)) (by decide) (by decide)) q232a q232c (g := (mkF m 173 #[.val (.long P0), .second, .val (.int P1), .val (.long P2), .second, .val (.int P3), .val (.int P4), .val (.long (tf1_0 P0)), .second, .val (.int (tf2_0 P1)), .val (.long (tf1_0 P0)), .second, .val (.int (tf2_0 P3)), .val (.ref b200), .val (.ref b206), .val (.int (((P4.toUInt32 >>> ((2 : Int32) &&& 31).toUInt32).toInt32) &&& (3 : Int32))), .val (.int (1 : Int32))] [(.ref b206), (.ref b200)])) rfl (by rw [hml]; rfl) (Steps.refl _) (argsL := [(.ref b206)]) (rest := []) (lenOf pd_0_3 rfl) rfl (by show 2 * 0 + _ ≤ _; exact Nat.le_of_eq rfl) (hb hby at_173) (fun _ _ => ⟨rfl, rfl, (by decide : 2 + 0 ≤ _), (by decide : 4 + 0 ≤ _)⟩)
              dsimp only [Pt.U, Pt.locs, Pt.cells, Pt.slots] at X232 l232 y232 z232 st232 hQ232
              subst l232 y232 z232
              obtain ⟨rfl, N232q, K232⟩ := hQ232
              have N232 := Fr.app N212 N232q
              obtain ⟨cq234, kq234, q234a, q234b, q234c⟩ := isOf hZ K232 p212_0
              obtain ⟨_, _, ⟨T234, L234, k234, n234⟩, -, X234, ⟨Lc234, hQ234, l234, y234, z234⟩, st234⟩ := X232.virtualBack hx (y := (⟨"com/example/kept_reads/keptreads/wire/ReadGroup", "equals", "(Ljava/lang/Object;)Z"⟩ : MethodName)) (z := (⟨"com/example/kept_reads/keptreads/wire/ReadGroup", "equals", "(Ljava/lang/Object;)Z"⟩ : MethodName)) hown (mvT hZ (hw _ (List.mem_of_getElem? (i := 21) rfl))) (mvT hZ (hw _ (List.mem_of_getElem? (i := 22) rfl))) (notFace_of_selects (args := #[]) (mvT hZ (hw _ (List.mem_of_getElem? (i := 24) rfl)))) (mvT hZ (hw _ (List.mem_of_getElem? (i := 24) rfl))) (mvT hZ (hw _ (List.mem_of_getElem? (i := 23) rfl))) (by decide) (backOf (W := 0) (rmeqR l Z a0 hw [] b206 b200 (tf1_0 P0) (tf2_0 P3) (tf1_0 P0) (tf2_0 P1) T212.heap n0 Z213 p212_1 p212_2 c230 c231 c233 (show b206 ≠ b200 from (Ne.symm ne209))) hZ (hw _ (List.mem_of_getElem? (i := 25) rfl)) (hw _ (List.mem_of_getElem? (i := 10) rfl)) (by decide) (by decide)) q234a q234c (g := (mkF m 185 #[.val (.long P0), .second, .val (.int P1), .val (.long P2), .second, .val (.int P3), .val (.int P4), .val (.long (tf1_0 P0)), .second, .val (.int (tf2_0 P1)), .val (.long (tf1_0 P0)), .second, .val (.int (tf2_0 P3)), .val (.ref b200), .val (.ref b206), .val (.int (((P4.toUInt32 >>> ((2 : Int32) &&& 31).toUInt32).toInt32) &&& (3 : Int32))), .val (.int (1 : Int32))] [(.ref b200), (.ref b206)])) rfl (by rw [hml]; rfl) (Steps.refl _) (argsL := [(.ref b200)]) (rest := []) (lenOf pd_0_3 rfl) rfl (by show 2 * 0 + _ ≤ _; exact Nat.le_of_eq rfl) (hb hby at_185) (fun _ _ => ⟨rfl, K232, (by decide : 2 + 0 ≤ _), (by decide : 4 + 0 ≤ _)⟩)
              dsimp only [Pt.U, Pt.locs, Pt.cells, Pt.slots] at X234 l234 y234 z234 st234 hQ234
              subst l234 y234 z234
              obtain ⟨rfl, N234q, K234⟩ := hQ234
              have N234 := Fr.app N232 N234q
              have pre235 : ∀ t, Steps p.tables e below (T234.setTop (mkF m 198 #[.val (.long P0), .second, .val (.int P1), .val (.long P2), .second, .val (.int P3), .val (.int P4), .val (.long (tf1_0 P0)), .second, .val (.int (tf2_0 P1)), .val (.long (tf1_0 P0)), .second, .val (.int (tf2_0 P3)), .val (.ref b200), .val (.ref b206), .val (.int (((P4.toUInt32 >>> ((2 : Int32) &&& 31).toUInt32).toInt32) &&& (3 : Int32))), .val (.int (1 : Int32))] [(.int (1 : Int32))])) t → Steps p.tables e below (s₁.setTop (entryFrame m #[(.long P0), (.int P1), (.long P2), (.int P3), (.int P4)] maxLocals)) t := fun t kt => pre229 t (by
                  show Steps p.tables e below (T212.setTop (mkF m 159 #[.val (.long P0), .second, .val (.int P1), .val (.long P2), .second, .val (.int P3), .val (.int P4), .val (.long (tf1_0 P0)), .second, .val (.int (tf2_0 P1)), .val (.long (tf1_0 P0)), .second, .val (.int (tf2_0 P3)), .val (.ref b200), .val (.ref b206), .val (.int (((P4.toUInt32 >>> ((2 : Int32) &&& 31).toUInt32).toInt32) &&& (3 : Int32))), .unset] [(.int (tf2_0 P3)), (.int (tf2_0 P1))])) _
                  refine XS.icmpNo X212.here hx rfl (hb hby at_159) rfl (teq hc159).2 ?_
                  show Steps p.tables e below (T212.setTop (mkF m 162 #[.val (.long P0), .second, .val (.int P1), .val (.long P2), .second, .val (.int P3), .val (.int P4), .val (.long (tf1_0 P0)), .second, .val (.int (tf2_0 P1)), .val (.long (tf1_0 P0)), .second, .val (.int (tf2_0 P3)), .val (.ref b200), .val (.ref b206), .val (.int (((P4.toUInt32 >>> ((2 : Int32) &&& 31).toUInt32).toInt32) &&& (3 : Int32))), .unset] [])) _
                  refine XS.iconst X212.here hx rfl (hb hby at_162) ?_
                  show Steps p.tables e below (T212.setTop (mkF m 163 #[.val (.long P0), .second, .val (.int P1), .val (.long P2), .second, .val (.int P3), .val (.int P4), .val (.long (tf1_0 P0)), .second, .val (.int (tf2_0 P1)), .val (.long (tf1_0 P0)), .second, .val (.int (tf2_0 P3)), .val (.ref b200), .val (.ref b206), .val (.int (((P4.toUInt32 >>> ((2 : Int32) &&& 31).toUInt32).toInt32) &&& (3 : Int32))), .unset] [(.int (1 : Int32))])) _
                  refine XS.goto X212.here hx rfl (pc0 := 163) (pc' := 167) rfl (hb hby at_163) (by decide) (by decide) ?_
                  show Steps p.tables e below (T212.setTop (mkF m 167 #[.val (.long P0), .second, .val (.int P1), .val (.long P2), .second, .val (.int P3), .val (.int P4), .val (.long (tf1_0 P0)), .second, .val (.int (tf2_0 P1)), .val (.long (tf1_0 P0)), .second, .val (.int (tf2_0 P3)), .val (.ref b200), .val (.ref b206), .val (.int (((P4.toUInt32 >>> ((2 : Int32) &&& 31).toUInt32).toInt32) &&& (3 : Int32))), .unset] [(.int (1 : Int32))])) _
                  refine XS.istore X212.here hx rfl (hb hby at_167) rfl (l' := #[.val (.long P0), .second, .val (.int P1), .val (.long P2), .second, .val (.int P3), .val (.int P4), .val (.long (tf1_0 P0)), .second, .val (.int (tf2_0 P1)), .val (.long (tf1_0 P0)), .second, .val (.int (tf2_0 P3)), .val (.ref b200), .val (.ref b206), .val (.int (((P4.toUInt32 >>> ((2 : Int32) &&& 31).toUInt32).toInt32) &&& (3 : Int32))), .val (.int (1 : Int32))]) rfl ?_
                  show Steps p.tables e below (T212.setTop (mkF m 169 #[.val (.long P0), .second, .val (.int P1), .val (.long P2), .second, .val (.int P3), .val (.int P4), .val (.long (tf1_0 P0)), .second, .val (.int (tf2_0 P1)), .val (.long (tf1_0 P0)), .second, .val (.int (tf2_0 P3)), .val (.ref b200), .val (.ref b206), .val (.int (((P4.toUInt32 >>> ((2 : Int32) &&& 31).toUInt32).toInt32) &&& (3 : Int32))), .val (.int (1 : Int32))] [])) _
                  refine XS.aload X212.here hx rfl (hb hby at_169) rfl rfl ?_
                  show Steps p.tables e below (T212.setTop (mkF m 171 #[.val (.long P0), .second, .val (.int P1), .val (.long P2), .second, .val (.int P3), .val (.int P4), .val (.long (tf1_0 P0)), .second, .val (.int (tf2_0 P1)), .val (.long (tf1_0 P0)), .second, .val (.int (tf2_0 P3)), .val (.ref b200), .val (.ref b206), .val (.int (((P4.toUInt32 >>> ((2 : Int32) &&& 31).toUInt32).toInt32) &&& (3 : Int32))), .val (.int (1 : Int32))] [(.ref b200)])) _
                  refine XS.aload X212.here hx rfl (hb hby at_171) rfl rfl ?_
                  show Steps p.tables e below (T212.setTop (mkF m 173 #[.val (.long P0), .second, .val (.int P1), .val (.long P2), .second, .val (.int P3), .val (.int P4), .val (.long (tf1_0 P0)), .second, .val (.int (tf2_0 P1)), .val (.long (tf1_0 P0)), .second, .val (.int (tf2_0 P3)), .val (.ref b200), .val (.ref b206), .val (.int (((P4.toUInt32 >>> ((2 : Int32) &&& 31).toUInt32).toInt32) &&& (3 : Int32))), .val (.int (1 : Int32))] [(.ref b206), (.ref b200)])) _
                  refine st232.trans ?_
                  show Steps p.tables e below (T232.setTop (mkF m 176 #[.val (.long P0), .second, .val (.int P1), .val (.long P2), .second, .val (.int P3), .val (.int P4), .val (.long (tf1_0 P0)), .second, .val (.int (tf2_0 P1)), .val (.long (tf1_0 P0)), .second, .val (.int (tf2_0 P3)), .val (.ref b200), .val (.ref b206), .val (.int (((P4.toUInt32 >>> ((2 : Int32) &&& 31).toUInt32).toInt32) &&& (3 : Int32))), .val (.int (1 : Int32))] [(.int (own_eq (tf1_0 P0) (tf1_0 P0) (tf2_0 P1) (tf2_0 P3)))])) _
                  refine XS.iload X232.here hx rfl (hb hby at_176) rfl ?_
                  show Steps p.tables e below (T232.setTop (mkF m 178 #[.val (.long P0), .second, .val (.int P1), .val (.long P2), .second, .val (.int P3), .val (.int P4), .val (.long (tf1_0 P0)), .second, .val (.int (tf2_0 P1)), .val (.long (tf1_0 P0)), .second, .val (.int (tf2_0 P3)), .val (.ref b200), .val (.ref b206), .val (.int (((P4.toUInt32 >>> ((2 : Int32) &&& 31).toUInt32).toInt32) &&& (3 : Int32))), .val (.int (1 : Int32))] [(.int (1 : Int32)), (.int (own_eq (tf1_0 P0) (tf1_0 P0) (tf2_0 P1) (tf2_0 P3)))])) _
                  refine XS.icmpNo X232.here hx rfl (hb hby at_178) rfl (teq (show (own_eq (tf1_0 P0) (tf1_0 P0) (tf2_0 P1) (tf2_0 P3)) = (1 : Int32) from (by unfold own_eq; rw [if_pos rfl, if_pos hc159]))).2 ?_
                  show Steps p.tables e below (T232.setTop (mkF m 181 #[.val (.long P0), .second, .val (.int P1), .val (.long P2), .second, .val (.int P3), .val (.int P4), .val (.long (tf1_0 P0)), .second, .val (.int (tf2_0 P1)), .val (.long (tf1_0 P0)), .second, .val (.int (tf2_0 P3)), .val (.ref b200), .val (.ref b206), .val (.int (((P4.toUInt32 >>> ((2 : Int32) &&& 31).toUInt32).toInt32) &&& (3 : Int32))), .val (.int (1 : Int32))] [])) _
                  refine XS.aload X232.here hx rfl (hb hby at_181) rfl rfl ?_
                  show Steps p.tables e below (T232.setTop (mkF m 183 #[.val (.long P0), .second, .val (.int P1), .val (.long P2), .second, .val (.int P3), .val (.int P4), .val (.long (tf1_0 P0)), .second, .val (.int (tf2_0 P1)), .val (.long (tf1_0 P0)), .second, .val (.int (tf2_0 P3)), .val (.ref b200), .val (.ref b206), .val (.int (((P4.toUInt32 >>> ((2 : Int32) &&& 31).toUInt32).toInt32) &&& (3 : Int32))), .val (.int (1 : Int32))] [(.ref b206)])) _
                  refine XS.aload X232.here hx rfl (hb hby at_183) rfl rfl ?_
                  show Steps p.tables e below (T232.setTop (mkF m 185 #[.val (.long P0), .second, .val (.int P1), .val (.long P2), .second, .val (.int P3), .val (.int P4), .val (.long (tf1_0 P0)), .second, .val (.int (tf2_0 P1)), .val (.long (tf1_0 P0)), .second, .val (.int (tf2_0 P3)), .val (.ref b200), .val (.ref b206), .val (.int (((P4.toUInt32 >>> ((2 : Int32) &&& 31).toUInt32).toInt32) &&& (3 : Int32))), .val (.int (1 : Int32))] [(.ref b200), (.ref b206)])) _
                  refine st234.trans ?_
                  show Steps p.tables e below (T234.setTop (mkF m 188 #[.val (.long P0), .second, .val (.int P1), .val (.long P2), .second, .val (.int P3), .val (.int P4), .val (.long (tf1_0 P0)), .second, .val (.int (tf2_0 P1)), .val (.long (tf1_0 P0)), .second, .val (.int (tf2_0 P3)), .val (.ref b200), .val (.ref b206), .val (.int (((P4.toUInt32 >>> ((2 : Int32) &&& 31).toUInt32).toInt32) &&& (3 : Int32))), .val (.int (1 : Int32))] [(.int (own_eq (tf1_0 P0) (tf1_0 P0) (tf2_0 P3) (tf2_0 P1)))])) _
                  refine XS.iload X234.here hx rfl (hb hby at_188) rfl ?_
                  show Steps p.tables e below (T234.setTop (mkF m 190 #[.val (.long P0), .second, .val (.int P1), .val (.long P2), .second, .val (.int P3), .val (.int P4), .val (.long (tf1_0 P0)), .second, .val (.int (tf2_0 P1)), .val (.long (tf1_0 P0)), .second, .val (.int (tf2_0 P3)), .val (.ref b200), .val (.ref b206), .val (.int (((P4.toUInt32 >>> ((2 : Int32) &&& 31).toUInt32).toInt32) &&& (3 : Int32))), .val (.int (1 : Int32))] [(.int (1 : Int32)), (.int (own_eq (tf1_0 P0) (tf1_0 P0) (tf2_0 P3) (tf2_0 P1)))])) _
                  refine XS.icmpNo X234.here hx rfl (hb hby at_190) rfl (teq (show (own_eq (tf1_0 P0) (tf1_0 P0) (tf2_0 P3) (tf2_0 P1)) = (1 : Int32) from (by unfold own_eq; rw [if_pos rfl, if_pos hc159.symm]))).2 ?_
                  show Steps p.tables e below (T234.setTop (mkF m 193 #[.val (.long P0), .second, .val (.int P1), .val (.long P2), .second, .val (.int P3), .val (.int P4), .val (.long (tf1_0 P0)), .second, .val (.int (tf2_0 P1)), .val (.long (tf1_0 P0)), .second, .val (.int (tf2_0 P3)), .val (.ref b200), .val (.ref b206), .val (.int (((P4.toUInt32 >>> ((2 : Int32) &&& 31).toUInt32).toInt32) &&& (3 : Int32))), .val (.int (1 : Int32))] [])) _
                  refine XS.iconst X234.here hx rfl (hb hby at_193) ?_
                  show Steps p.tables e below (T234.setTop (mkF m 194 #[.val (.long P0), .second, .val (.int P1), .val (.long P2), .second, .val (.int P3), .val (.int P4), .val (.long (tf1_0 P0)), .second, .val (.int (tf2_0 P1)), .val (.long (tf1_0 P0)), .second, .val (.int (tf2_0 P3)), .val (.ref b200), .val (.ref b206), .val (.int (((P4.toUInt32 >>> ((2 : Int32) &&& 31).toUInt32).toInt32) &&& (3 : Int32))), .val (.int (1 : Int32))] [(.int (1 : Int32))])) _
                  refine XS.goto X234.here hx rfl (pc0 := 194) (pc' := 198) rfl (hb hby at_194) (by decide) (by decide) ?_
                  exact kt)
              obtain ⟨fs, hr, hrun, hended, hW, hsame⟩ := X234.leave (v := some (.int (1 : Int32))) (fun h => by rw [Bd.returns] at h; cases h)
              refine ⟨_, _, pre235 _ ?_, hrun, hended, _, _, rfl, ?_, ⟨_, rfl⟩, hW, hsame.mono (by decide) (by decide)⟩
              · show Steps p.tables e below (T234.setTop (mkF m 198 #[.val (.long P0), .second, .val (.int P1), .val (.long P2), .second, .val (.int P3), .val (.int P4), .val (.long (tf1_0 P0)), .second, .val (.int (tf2_0 P1)), .val (.long (tf1_0 P0)), .second, .val (.int (tf2_0 P3)), .val (.ref b200), .val (.ref b206), .val (.int (((P4.toUInt32 >>> ((2 : Int32) &&& 31).toUInt32).toInt32) &&& (3 : Int32))), .val (.int (1 : Int32))] [(.int (1 : Int32))])) _
                exact retN X234 hx (t := .boolean) Bd.returns (by simp) (hb hby at_198) hr
              · show Q0 Z P0 P1 P2 P3 P4 U0 h0 n0 _ T234.heap _
                rw [K234]
                exact ⟨rfl, N234⟩
            · have c236 : Fld Z T212.heap b200 "com/example/kept_reads/keptreads/wire/ReadGroup" "transaction" "J" (.long (tf1_0 P0)) := ((p204_1.ext E206).keep K212 (ninS ne209 nin0))
              have c237 : Fld Z T212.heap b200 "com/example/kept_reads/keptreads/wire/ReadGroup" "call" "I" (.int (tf2_0 P1)) := ((p204_2.ext E206).keep K212 (ninS ne209 nin0))
              have c239 : Exa Z T212.heap b200 "com/example/kept_reads/keptreads/wire/ReadGroup" := ((p204_0.ext E206).keep K212)
              obtain ⟨cq238, kq238, q238a, q238b, q238c⟩ := isOf hZ rfl c239
              obtain ⟨_, _, ⟨T238, L238, k238, n238⟩, -, X238, ⟨Lc238, hQ238, l238, y238, z238⟩, st238⟩ := X212.virtualBack hx (y := (⟨"com/example/kept_reads/keptreads/wire/ReadGroup", "equals", "(Ljava/lang/Object;)Z"⟩ : MethodName)) (z := (⟨"com/example/kept_reads/keptreads/wire/ReadGroup", "equals", "(Ljava/lang/Object;)Z"⟩ : MethodName)) hown (mvT hZ (hw _ (List.mem_of_getElem? (i := 21) rfl))) (mvT hZ (hw _ (List.mem_of_getElem? (i := 22) rfl))) (notFace_of_selects (args := #[]) (mvT hZ (hw _ (List.mem_of_getElem? (i := 24) rfl)))) (mvT hZ (hw _ (List.mem_of_getElem? (i := 24) rfl))) (mvT hZ (hw _ (List.mem_of_getElem? (i := 23) rfl))) (by decide) (backOf (W := 0) (rmeqR l Z a0 hw [] b200 b206 (tf1_0 P0) (tf2_0 P1) (tf1_0 P0) (tf2_0 P3) T212.heap n0 Z213 c236 c237 p212_1 p212_2 p212_0 (show b200 ≠ b206 from ne209)) hZ (hw _ (List.mem_of_getElem? (i := 25) rfl)) (hw _ (List.mem_of_getElem? (i := 10) rfl)) (by decide) (by decide)) q238a q238c (g := (mkF m 173 #[.val (.long P0), .second, .val (.int P1), .val (.long P2), .second, .val (.int P3), .val (.int P4), .val (.long (tf1_0 P0)), .second, .val (.int (tf2_0 P1)), .val (.long (tf1_0 P0)), .second, .val (.int (tf2_0 P3)), .val (.ref b200), .val (.ref b206), .val (.int (((P4.toUInt32 >>> ((2 : Int32) &&& 31).toUInt32).toInt32) &&& (3 : Int32))), .val (.int (0 : Int32))] [(.ref b206), (.ref b200)])) rfl (by rw [hml]; rfl) (Steps.refl _) (argsL := [(.ref b206)]) (rest := []) (lenOf pd_0_3 rfl) rfl (by show 2 * 0 + _ ≤ _; exact Nat.le_of_eq rfl) (hb hby at_173) (fun _ _ => ⟨rfl, rfl, (by decide : 2 + 0 ≤ _), (by decide : 4 + 0 ≤ _)⟩)
              dsimp only [Pt.U, Pt.locs, Pt.cells, Pt.slots] at X238 l238 y238 z238 st238 hQ238
              subst l238 y238 z238
              obtain ⟨rfl, N238q, K238⟩ := hQ238
              have N238 := Fr.app N212 N238q
              obtain ⟨cq240, kq240, q240a, q240b, q240c⟩ := isOf hZ K238 p212_0
              obtain ⟨_, _, ⟨T240, L240, k240, n240⟩, -, X240, ⟨Lc240, hQ240, l240, y240, z240⟩, st240⟩ := X238.virtualBack hx (y := (⟨"com/example/kept_reads/keptreads/wire/ReadGroup", "equals", "(Ljava/lang/Object;)Z"⟩ : MethodName)) (z := (⟨"com/example/kept_reads/keptreads/wire/ReadGroup", "equals", "(Ljava/lang/Object;)Z"⟩ : MethodName)) hown (mvT hZ (hw _ (List.mem_of_getElem? (i := 21) rfl))) (mvT hZ (hw _ (List.mem_of_getElem? (i := 22) rfl))) (notFace_of_selects (args := #[]) (mvT hZ (hw _ (List.mem_of_getElem? (i := 24) rfl)))) (mvT hZ (hw _ (List.mem_of_getElem? (i := 24) rfl))) (mvT hZ (hw _ (List.mem_of_getElem? (i := 23) rfl))) (by decide) (backOf (W := 0) (rmeqR l Z a0 hw [] b206 b200 (tf1_0 P0) (tf2_0 P3) (tf1_0 P0) (tf2_0 P1) T212.heap n0 Z213 p212_1 p212_2 c236 c237 c239 (show b206 ≠ b200 from (Ne.symm ne209))) hZ (hw _ (List.mem_of_getElem? (i := 25) rfl)) (hw _ (List.mem_of_getElem? (i := 10) rfl)) (by decide) (by decide)) q240a q240c (g := (mkF m 185 #[.val (.long P0), .second, .val (.int P1), .val (.long P2), .second, .val (.int P3), .val (.int P4), .val (.long (tf1_0 P0)), .second, .val (.int (tf2_0 P1)), .val (.long (tf1_0 P0)), .second, .val (.int (tf2_0 P3)), .val (.ref b200), .val (.ref b206), .val (.int (((P4.toUInt32 >>> ((2 : Int32) &&& 31).toUInt32).toInt32) &&& (3 : Int32))), .val (.int (0 : Int32))] [(.ref b200), (.ref b206)])) rfl (by rw [hml]; rfl) (Steps.refl _) (argsL := [(.ref b200)]) (rest := []) (lenOf pd_0_3 rfl) rfl (by show 2 * 0 + _ ≤ _; exact Nat.le_of_eq rfl) (hb hby at_185) (fun _ _ => ⟨rfl, K238, (by decide : 2 + 0 ≤ _), (by decide : 4 + 0 ≤ _)⟩)
              dsimp only [Pt.U, Pt.locs, Pt.cells, Pt.slots] at X240 l240 y240 z240 st240 hQ240
              subst l240 y240 z240
              obtain ⟨rfl, N240q, K240⟩ := hQ240
              have N240 := Fr.app N238 N240q
              have pre241 : ∀ t, Steps p.tables e below (T240.setTop (mkF m 198 #[.val (.long P0), .second, .val (.int P1), .val (.long P2), .second, .val (.int P3), .val (.int P4), .val (.long (tf1_0 P0)), .second, .val (.int (tf2_0 P1)), .val (.long (tf1_0 P0)), .second, .val (.int (tf2_0 P3)), .val (.ref b200), .val (.ref b206), .val (.int (((P4.toUInt32 >>> ((2 : Int32) &&& 31).toUInt32).toInt32) &&& (3 : Int32))), .val (.int (0 : Int32))] [(.int (1 : Int32))])) t → Steps p.tables e below (s₁.setTop (entryFrame m #[(.long P0), (.int P1), (.long P2), (.int P3), (.int P4)] maxLocals)) t := fun t kt => pre229 t (by
                  show Steps p.tables e below (T212.setTop (mkF m 159 #[.val (.long P0), .second, .val (.int P1), .val (.long P2), .second, .val (.int P3), .val (.int P4), .val (.long (tf1_0 P0)), .second, .val (.int (tf2_0 P1)), .val (.long (tf1_0 P0)), .second, .val (.int (tf2_0 P3)), .val (.ref b200), .val (.ref b206), .val (.int (((P4.toUInt32 >>> ((2 : Int32) &&& 31).toUInt32).toInt32) &&& (3 : Int32))), .unset] [(.int (tf2_0 P3)), (.int (tf2_0 P1))])) _
                  refine XS.icmpYes X212.here hx rfl (pc0 := 159) (pc' := 166) rfl (hb hby at_159) rfl (feq hc159).2 (by decide) (by decide) ?_
                  show Steps p.tables e below (T212.setTop (mkF m 166 #[.val (.long P0), .second, .val (.int P1), .val (.long P2), .second, .val (.int P3), .val (.int P4), .val (.long (tf1_0 P0)), .second, .val (.int (tf2_0 P1)), .val (.long (tf1_0 P0)), .second, .val (.int (tf2_0 P3)), .val (.ref b200), .val (.ref b206), .val (.int (((P4.toUInt32 >>> ((2 : Int32) &&& 31).toUInt32).toInt32) &&& (3 : Int32))), .unset] [])) _
                  refine XS.iconst X212.here hx rfl (hb hby at_166) ?_
                  show Steps p.tables e below (T212.setTop (mkF m 167 #[.val (.long P0), .second, .val (.int P1), .val (.long P2), .second, .val (.int P3), .val (.int P4), .val (.long (tf1_0 P0)), .second, .val (.int (tf2_0 P1)), .val (.long (tf1_0 P0)), .second, .val (.int (tf2_0 P3)), .val (.ref b200), .val (.ref b206), .val (.int (((P4.toUInt32 >>> ((2 : Int32) &&& 31).toUInt32).toInt32) &&& (3 : Int32))), .unset] [(.int (0 : Int32))])) _
                  refine XS.istore X212.here hx rfl (hb hby at_167) rfl (l' := #[.val (.long P0), .second, .val (.int P1), .val (.long P2), .second, .val (.int P3), .val (.int P4), .val (.long (tf1_0 P0)), .second, .val (.int (tf2_0 P1)), .val (.long (tf1_0 P0)), .second, .val (.int (tf2_0 P3)), .val (.ref b200), .val (.ref b206), .val (.int (((P4.toUInt32 >>> ((2 : Int32) &&& 31).toUInt32).toInt32) &&& (3 : Int32))), .val (.int (0 : Int32))]) rfl ?_
                  show Steps p.tables e below (T212.setTop (mkF m 169 #[.val (.long P0), .second, .val (.int P1), .val (.long P2), .second, .val (.int P3), .val (.int P4), .val (.long (tf1_0 P0)), .second, .val (.int (tf2_0 P1)), .val (.long (tf1_0 P0)), .second, .val (.int (tf2_0 P3)), .val (.ref b200), .val (.ref b206), .val (.int (((P4.toUInt32 >>> ((2 : Int32) &&& 31).toUInt32).toInt32) &&& (3 : Int32))), .val (.int (0 : Int32))] [])) _
                  refine XS.aload X212.here hx rfl (hb hby at_169) rfl rfl ?_
                  show Steps p.tables e below (T212.setTop (mkF m 171 #[.val (.long P0), .second, .val (.int P1), .val (.long P2), .second, .val (.int P3), .val (.int P4), .val (.long (tf1_0 P0)), .second, .val (.int (tf2_0 P1)), .val (.long (tf1_0 P0)), .second, .val (.int (tf2_0 P3)), .val (.ref b200), .val (.ref b206), .val (.int (((P4.toUInt32 >>> ((2 : Int32) &&& 31).toUInt32).toInt32) &&& (3 : Int32))), .val (.int (0 : Int32))] [(.ref b200)])) _
                  refine XS.aload X212.here hx rfl (hb hby at_171) rfl rfl ?_
                  show Steps p.tables e below (T212.setTop (mkF m 173 #[.val (.long P0), .second, .val (.int P1), .val (.long P2), .second, .val (.int P3), .val (.int P4), .val (.long (tf1_0 P0)), .second, .val (.int (tf2_0 P1)), .val (.long (tf1_0 P0)), .second, .val (.int (tf2_0 P3)), .val (.ref b200), .val (.ref b206), .val (.int (((P4.toUInt32 >>> ((2 : Int32) &&& 31).toUInt32).toInt32) &&& (3 : Int32))), .val (.int (0 : Int32))] [(.ref b206), (.ref b200)])) _
                  refine st238.trans ?_
                  show Steps p.tables e below (T238.setTop (mkF m 176 #[.val (.long P0), .second, .val (.int P1), .val (.long P2), .second, .val (.int P3), .val (.int P4), .val (.long (tf1_0 P0)), .second, .val (.int (tf2_0 P1)), .val (.long (tf1_0 P0)), .second, .val (.int (tf2_0 P3)), .val (.ref b200), .val (.ref b206), .val (.int (((P4.toUInt32 >>> ((2 : Int32) &&& 31).toUInt32).toInt32) &&& (3 : Int32))), .val (.int (0 : Int32))] [(.int (own_eq (tf1_0 P0) (tf1_0 P0) (tf2_0 P1) (tf2_0 P3)))])) _
                  refine XS.iload X238.here hx rfl (hb hby at_176) rfl ?_
                  show Steps p.tables e below (T238.setTop (mkF m 178 #[.val (.long P0), .second, .val (.int P1), .val (.long P2), .second, .val (.int P3), .val (.int P4), .val (.long (tf1_0 P0)), .second, .val (.int (tf2_0 P1)), .val (.long (tf1_0 P0)), .second, .val (.int (tf2_0 P3)), .val (.ref b200), .val (.ref b206), .val (.int (((P4.toUInt32 >>> ((2 : Int32) &&& 31).toUInt32).toInt32) &&& (3 : Int32))), .val (.int (0 : Int32))] [(.int (0 : Int32)), (.int (own_eq (tf1_0 P0) (tf1_0 P0) (tf2_0 P1) (tf2_0 P3)))])) _
                  refine XS.icmpNo X238.here hx rfl (hb hby at_178) rfl (teq (show (own_eq (tf1_0 P0) (tf1_0 P0) (tf2_0 P1) (tf2_0 P3)) = (0 : Int32) from (by unfold own_eq; rw [if_pos rfl, if_neg hc159]))).2 ?_
                  show Steps p.tables e below (T238.setTop (mkF m 181 #[.val (.long P0), .second, .val (.int P1), .val (.long P2), .second, .val (.int P3), .val (.int P4), .val (.long (tf1_0 P0)), .second, .val (.int (tf2_0 P1)), .val (.long (tf1_0 P0)), .second, .val (.int (tf2_0 P3)), .val (.ref b200), .val (.ref b206), .val (.int (((P4.toUInt32 >>> ((2 : Int32) &&& 31).toUInt32).toInt32) &&& (3 : Int32))), .val (.int (0 : Int32))] [])) _
                  refine XS.aload X238.here hx rfl (hb hby at_181) rfl rfl ?_
                  show Steps p.tables e below (T238.setTop (mkF m 183 #[.val (.long P0), .second, .val (.int P1), .val (.long P2), .second, .val (.int P3), .val (.int P4), .val (.long (tf1_0 P0)), .second, .val (.int (tf2_0 P1)), .val (.long (tf1_0 P0)), .second, .val (.int (tf2_0 P3)), .val (.ref b200), .val (.ref b206), .val (.int (((P4.toUInt32 >>> ((2 : Int32) &&& 31).toUInt32).toInt32) &&& (3 : Int32))), .val (.int (0 : Int32))] [(.ref b206)])) _
                  refine XS.aload X238.here hx rfl (hb hby at_183) rfl rfl ?_
                  show Steps p.tables e below (T238.setTop (mkF m 185 #[.val (.long P0), .second, .val (.int P1), .val (.long P2), .second, .val (.int P3), .val (.int P4), .val (.long (tf1_0 P0)), .second, .val (.int (tf2_0 P1)), .val (.long (tf1_0 P0)), .second, .val (.int (tf2_0 P3)), .val (.ref b200), .val (.ref b206), .val (.int (((P4.toUInt32 >>> ((2 : Int32) &&& 31).toUInt32).toInt32) &&& (3 : Int32))), .val (.int (0 : Int32))] [(.ref b200), (.ref b206)])) _
                  refine st240.trans ?_
                  show Steps p.tables e below (T240.setTop (mkF m 188 #[.val (.long P0), .second, .val (.int P1), .val (.long P2), .second, .val (.int P3), .val (.int P4), .val (.long (tf1_0 P0)), .second, .val (.int (tf2_0 P1)), .val (.long (tf1_0 P0)), .second, .val (.int (tf2_0 P3)), .val (.ref b200), .val (.ref b206), .val (.int (((P4.toUInt32 >>> ((2 : Int32) &&& 31).toUInt32).toInt32) &&& (3 : Int32))), .val (.int (0 : Int32))] [(.int (own_eq (tf1_0 P0) (tf1_0 P0) (tf2_0 P3) (tf2_0 P1)))])) _
                  refine XS.iload X240.here hx rfl (hb hby at_188) rfl ?_
                  show Steps p.tables e below (T240.setTop (mkF m 190 #[.val (.long P0), .second, .val (.int P1), .val (.long P2), .second, .val (.int P3), .val (.int P4), .val (.long (tf1_0 P0)), .second, .val (.int (tf2_0 P1)), .val (.long (tf1_0 P0)), .second, .val (.int (tf2_0 P3)), .val (.ref b200), .val (.ref b206), .val (.int (((P4.toUInt32 >>> ((2 : Int32) &&& 31).toUInt32).toInt32) &&& (3 : Int32))), .val (.int (0 : Int32))] [(.int (0 : Int32)), (.int (own_eq (tf1_0 P0) (tf1_0 P0) (tf2_0 P3) (tf2_0 P1)))])) _
                  refine XS.icmpNo X240.here hx rfl (hb hby at_190) rfl (teq (show (own_eq (tf1_0 P0) (tf1_0 P0) (tf2_0 P3) (tf2_0 P1)) = (0 : Int32) from (by unfold own_eq; rw [if_pos rfl, if_neg (fun q => hc159 q.symm)]))).2 ?_
                  show Steps p.tables e below (T240.setTop (mkF m 193 #[.val (.long P0), .second, .val (.int P1), .val (.long P2), .second, .val (.int P3), .val (.int P4), .val (.long (tf1_0 P0)), .second, .val (.int (tf2_0 P1)), .val (.long (tf1_0 P0)), .second, .val (.int (tf2_0 P3)), .val (.ref b200), .val (.ref b206), .val (.int (((P4.toUInt32 >>> ((2 : Int32) &&& 31).toUInt32).toInt32) &&& (3 : Int32))), .val (.int (0 : Int32))] [])) _
                  refine XS.iconst X240.here hx rfl (hb hby at_193) ?_
                  show Steps p.tables e below (T240.setTop (mkF m 194 #[.val (.long P0), .second, .val (.int P1), .val (.long P2), .second, .val (.int P3), .val (.int P4), .val (.long (tf1_0 P0)), .second, .val (.int (tf2_0 P1)), .val (.long (tf1_0 P0)), .second, .val (.int (tf2_0 P3)), .val (.ref b200), .val (.ref b206), .val (.int (((P4.toUInt32 >>> ((2 : Int32) &&& 31).toUInt32).toInt32) &&& (3 : Int32))), .val (.int (0 : Int32))] [(.int (1 : Int32))])) _
                  refine XS.goto X240.here hx rfl (pc0 := 194) (pc' := 198) rfl (hb hby at_194) (by decide) (by decide) ?_
                  exact kt)
              obtain ⟨fs, hr, hrun, hended, hW, hsame⟩ := X240.leave (v := some (.int (1 : Int32))) (fun h => by rw [Bd.returns] at h; cases h)
              refine ⟨_, _, pre241 _ ?_, hrun, hended, _, _, rfl, ?_, ⟨_, rfl⟩, hW, hsame.mono (by decide) (by decide)⟩
              · show Steps p.tables e below (T240.setTop (mkF m 198 #[.val (.long P0), .second, .val (.int P1), .val (.long P2), .second, .val (.int P3), .val (.int P4), .val (.long (tf1_0 P0)), .second, .val (.int (tf2_0 P1)), .val (.long (tf1_0 P0)), .second, .val (.int (tf2_0 P3)), .val (.ref b200), .val (.ref b206), .val (.int (((P4.toUInt32 >>> ((2 : Int32) &&& 31).toUInt32).toInt32) &&& (3 : Int32))), .val (.int (0 : Int32))] [(.int (1 : Int32))])) _
                exact retN X240 hx (t := .boolean) Bd.returns (by simp) (hb hby at_198) hr
              · show Q0 Z P0 P1 P2 P3 P4 U0 h0 n0 _ T240.heap _
                rw [K240]
                exact ⟨rfl, N240⟩
    · obtain ⟨T242, h242, X242, e242, E242, A242, D242, -, st242⟩ := newO X102 hx hZ hown (hw _ (List.mem_of_getElem? (i := 8) rfl)) (hw _ (List.mem_of_getElem? (i := 9) rfl)) (hw _ (List.mem_of_getElem? (i := 10) rfl)) K102 (g := (mkF m 49 #[.val (.long P0), .second, .val (.int P1), .val (.long P2), .second, .val (.int P3), .val (.int P4), .val (.long (tf1_0 P0)), .second, .val (.int (tf2_0 P1)), .val (.long (tf1_0 P0)), .second, .val (.int (tf2_0 P1)), .unset, .unset, .unset, .unset] [])) rfl (hb hby at_49) (by decide) (by decide)
      obtain ⟨b242, q242⟩ : ∃ z, z = h0.size := ⟨_, rfl⟩
      rw [← q242] at A242 D242 st242
      have ne243 : U0 ≠ b242 := Nat.ne_of_lt (Nat.lt_of_lt_of_le pm1.lt (Nat.le_of_eq q242.symm))
      have g_b242 : n0 ≤ b242 := Nat.le_trans Z0 (Nat.le_of_eq q242.symm)
      have Z244 : n0 ≤ h242.size := Nat.le_trans Z0 E242.1
      have F242_18 : Fld Z h242 b242 "com/example/kept_reads/keptreads/wire/ReadGroup" "transaction" "J" (.long (0 : Int64)) := D242 (Or.inr (hw _ (List.mem_of_getElem? (i := 18) rfl))) (ty := .long) (by decide)
      have F242_20 : Fld Z h242 b242 "com/example/kept_reads/keptreads/wire/ReadGroup" "call" "I" (.int (0 : Int32)) := D242 (Or.inr (hw _ (List.mem_of_getElem? (i := 20) rfl))) (ty := .int) (by decide)
      have c245 : Sta Z h242 "java/lang/Long$LongCache" "cache" "[Ljava/lang/Long;" (.ref U0) := (pm0.ext E242)
      obtain ⟨_, _, ⟨T246, L246, k246, n246⟩, -, X246, ⟨Lc246, hQ246, l246, y246, z246⟩, st246⟩ := X242.specialBack hx (y := (⟨"com/example/kept_reads/keptreads/wire/ReadGroup", "<init>", "(JI)V"⟩ : MethodName)) rfl hown (mvT hZ (hw _ (List.mem_of_getElem? (i := 11) rfl))) (mvT hZ (hw _ (List.mem_of_getElem? (i := 12) rfl))) (mvT hZ (hw _ (List.mem_of_getElem? (i := 13) rfl))) (by decide) (backOf (W := 1) (rm3 l Z a0 hw [] b242 (tf1_0 P0) (tf2_0 P1) (0 : Int64) (0 : Int32) h242 n0 Z244 F242_18 F242_20 A242 (show ¬ ((tf1_0 P0) < (1 : Int64)) from (own_posL _)) (show ¬ ((tf2_0 P1) < (1 : Int32)) from (own_posI _)) g_b242) hZ (hw _ (List.mem_of_getElem? (i := 13) rfl)) (hw _ (List.mem_of_getElem? (i := 10) rfl)) (by decide) (by decide)) (g := (mkF m 57 #[.val (.long P0), .second, .val (.int P1), .val (.long P2), .second, .val (.int P3), .val (.int P4), .val (.long (tf1_0 P0)), .second, .val (.int (tf2_0 P1)), .val (.long (tf1_0 P0)), .second, .val (.int (tf2_0 P1)), .unset, .unset, .unset, .unset] [(.int (tf2_0 P1)), (.long (tf1_0 P0)), (.ref b242), (.ref b242)])) rfl (by rw [hml]; rfl) (Steps.refl _) (a := b242) (argsL := [(.long (tf1_0 P0)), (.int (tf2_0 P1))]) (rest := [(.ref b242)]) (lenOf pd_0_2 rfl) rfl (by show 2 * 0 + _ ≤ _; exact Nat.le_of_eq rfl) (hb hby at_57) (fun _ _ => ⟨rfl, e242, (by decide : 1 + 0 ≤ _), (by decide : 2 + 0 ≤ _)⟩)
      dsimp only [Pt.U, Pt.locs, Pt.cells, Pt.slots] at X246 l246 y246 z246 st246 hQ246
      subst l246 y246 z246
      obtain ⟨rfl, N246q, K246, p246_0, p246_1, p246_2⟩ := hQ246
      have N246 := Fr.app N102 N246q
      have Z247 : n0 ≤ T246.heap.size := Nat.le_trans Z244 K246.1
      have ss246_0 : Sta Z T246.heap "java/lang/Long$LongCache" "cache" "[Ljava/lang/Long;" (.ref U0) := own_sta_keep c245 K246 (allS (own_ns A242) all0)
      obtain ⟨T248, h248, X248, e248, E248, A248, D248, -, st248⟩ := newO X246 hx hZ hown (hw _ (List.mem_of_getElem? (i := 8) rfl)) (hw _ (List.mem_of_getElem? (i := 9) rfl)) (hw _ (List.mem_of_getElem? (i := 10) rfl)) rfl (g := (mkF m 62 #[.val (.long P0), .second, .val (.int P1), .val (.long P2), .second, .val (.int P3), .val (.int P4), .val (.long (tf1_0 P0)), .second, .val (.int (tf2_0 P1)), .val (.long (tf1_0 P0)), .second, .val (.int (tf2_0 P1)), .val (.ref b242), .unset, .unset, .unset] [])) rfl (hb hby at_62) (by decide) (by decide)
      obtain ⟨b248, q248⟩ : ∃ z, z = T246.heap.size := ⟨_, rfl⟩
      rw [← q248] at A248 D248 st248
      have c250 : own_Cac Z T246.heap "java/lang/Long" U0 := ((pm1.ext E242).keep K246 (ninS ne243 nin0))
      have ne249 : U0 ≠ b248 := Nat.ne_of_lt (Nat.lt_of_lt_of_le c250.lt (Nat.le_of_eq q248.symm))
      have ne251 : b242 ≠ b248 := Nat.ne_of_lt (Nat.lt_of_lt_of_le p246_0.lt (Nat.le_of_eq q248.symm))
      have g_b248 : n0 ≤ b248 := Nat.le_trans Z247 (Nat.le_of_eq q248.symm)
      have Z252 : n0 ≤ h248.size := Nat.le_trans Z247 E248.1
      have F248_18 : Fld Z h248 b248 "com/example/kept_reads/keptreads/wire/ReadGroup" "transaction" "J" (.long (0 : Int64)) := D248 (Or.inr (hw _ (List.mem_of_getElem? (i := 18) rfl))) (ty := .long) (by decide)
      have F248_20 : Fld Z h248 b248 "com/example/kept_reads/keptreads/wire/ReadGroup" "call" "I" (.int (0 : Int32)) := D248 (Or.inr (hw _ (List.mem_of_getElem? (i := 20) rfl))) (ty := .int) (by decide)
      have c253 : Sta Z h248 "java/lang/Long$LongCache" "cache" "[Ljava/lang/Long;" (.ref U0) := (ss246_0.ext E248)
      obtain ⟨_, _, ⟨T254, L254, k254, n254⟩, -, X254, ⟨Lc254, hQ254, l254, y254, z254⟩, st254⟩ := X248.specialBack hx (y := (⟨"com/example/kept_reads/keptreads/wire/ReadGroup", "<init>", "(JI)V"⟩ : MethodName)) rfl hown (mvT hZ (hw _ (List.mem_of_getElem? (i := 11) rfl))) (mvT hZ (hw _ (List.mem_of_getElem? (i := 12) rfl))) (mvT hZ (hw _ (List.mem_of_getElem? (i := 13) rfl))) (by decide) (backOf (W := 1) (rm3 l Z a0 hw [] b248 (tf1_0 P0) (tf2_0 P1) (0 : Int64) (0 : Int32) h248 n0 Z252 F248_18 F248_20 A248 (show ¬ ((tf1_0 P0) < (1 : Int64)) from (own_posL _)) (show ¬ ((tf2_0 P1) < (1 : Int32)) from (own_posI _)) g_b248) hZ (hw _ (List.mem_of_getElem? (i := 13) rfl)) (hw _ (List.mem_of_getElem? (i := 10) rfl)) (by decide) (by decide)) (g := (mkF m 70 #[.val (.long P0), .second, .val (.int P1), .val (.long P2), .second, .val (.int P3), .val (.int P4), .val (.long (tf1_0 P0)), .second, .val (.int (tf2_0 P1)), .val (.long (tf1_0 P0)), .second, .val (.int (tf2_0 P1)), .val (.ref b242), .unset, .unset, .unset] [(.int (tf2_0 P1)), (.long (tf1_0 P0)), (.ref b248), (.ref b248)])) rfl (by rw [hml]; rfl) (Steps.refl _) (a := b248) (argsL := [(.long (tf1_0 P0)), (.int (tf2_0 P1))]) (rest := [(.ref b248)]) (lenOf pd_0_2 rfl) rfl (by show 2 * 0 + _ ≤ _; exact Nat.le_of_eq rfl) (hb hby at_70) (fun _ _ => ⟨rfl, e248, (by decide : 2 + 0 ≤ _), (by decide : 4 + 0 ≤ _)⟩)
      dsimp only [Pt.U, Pt.locs, Pt.cells, Pt.slots] at X254 l254 y254 z254 st254 hQ254
      subst l254 y254 z254
      obtain ⟨rfl, N254q, K254, p254_0, p254_1, p254_2⟩ := hQ254
      have N254 := Fr.app N246 N254q
      have Z255 : n0 ≤ T254.heap.size := Nat.le_trans Z252 K254.1
      have ss254_0 : Sta Z T254.heap "java/lang/Long$LongCache" "cache" "[Ljava/lang/Long;" (.ref U0) := own_sta_keep c253 K254 (allS (own_ns A248) all0)
      have pre256 : ∀ t, Steps p.tables e below (T254.setTop (mkF m 86 #[.val (.long P0), .second, .val (.int P1), .val (.long P2), .second, .val (.int P3), .val (.int P4), .val (.long (tf1_0 P0)), .second, .val (.int (tf2_0 P1)), .val (.long (tf1_0 P0)), .second, .val (.int (tf2_0 P1)), .val (.ref b242), .val (.ref b248), .val (.int (((P4.toUInt32 >>> ((2 : Int32) &&& 31).toUInt32).toInt32) &&& (3 : Int32))), .unset] [(.int (1 : Int32)), (.int (((P4.toUInt32 >>> ((2 : Int32) &&& 31).toUInt32).toInt32) &&& (3 : Int32)))])) t → Steps p.tables e below (s₁.setTop (entryFrame m #[(.long P0), (.int P1), (.long P2), (.int P3), (.int P4)] maxLocals)) t := fun t kt => pre198 t (by
          show Steps p.tables e below (T102.setTop (mkF m 34 #[.val (.long P0), .second, .val (.int P1), .val (.long P2), .second, .val (.int P3), .val (.int P4), .val (.long (tf1_0 P0)), .second, .val (.int (tf2_0 P1)), .val (.long (tf1_0 P0)), .second, .unset, .unset, .unset, .unset, .unset] [(.int (P4 &&& (2 : Int32)))])) _
          refine XS.ifNo X102.here hx rfl (hb hby at_34) rfl ((if0 _ _).trans (feq hc34).1) ?_
          show Steps p.tables e below (T102.setTop (mkF m 37 #[.val (.long P0), .second, .val (.int P1), .val (.long P2), .second, .val (.int P3), .val (.int P4), .val (.long (tf1_0 P0)), .second, .val (.int (tf2_0 P1)), .val (.long (tf1_0 P0)), .second, .unset, .unset, .unset, .unset, .unset] [])) _
          refine XS.iload X102.here hx rfl (hb hby at_37) rfl ?_
          show Steps p.tables e below (T102.setTop (mkF m 39 #[.val (.long P0), .second, .val (.int P1), .val (.long P2), .second, .val (.int P3), .val (.int P4), .val (.long (tf1_0 P0)), .second, .val (.int (tf2_0 P1)), .val (.long (tf1_0 P0)), .second, .unset, .unset, .unset, .unset, .unset] [(.int (tf2_0 P1))])) _
          refine XS.goto X102.here hx rfl (pc0 := 39) (pc' := 47) rfl (hb hby at_39) (by decide) (by decide) ?_
          show Steps p.tables e below (T102.setTop (mkF m 47 #[.val (.long P0), .second, .val (.int P1), .val (.long P2), .second, .val (.int P3), .val (.int P4), .val (.long (tf1_0 P0)), .second, .val (.int (tf2_0 P1)), .val (.long (tf1_0 P0)), .second, .unset, .unset, .unset, .unset, .unset] [(.int (tf2_0 P1))])) _
          refine XS.istore X102.here hx rfl (hb hby at_47) rfl (l' := #[.val (.long P0), .second, .val (.int P1), .val (.long P2), .second, .val (.int P3), .val (.int P4), .val (.long (tf1_0 P0)), .second, .val (.int (tf2_0 P1)), .val (.long (tf1_0 P0)), .second, .val (.int (tf2_0 P1)), .unset, .unset, .unset, .unset]) rfl ?_
          show Steps p.tables e below (T102.setTop (mkF m 49 #[.val (.long P0), .second, .val (.int P1), .val (.long P2), .second, .val (.int P3), .val (.int P4), .val (.long (tf1_0 P0)), .second, .val (.int (tf2_0 P1)), .val (.long (tf1_0 P0)), .second, .val (.int (tf2_0 P1)), .unset, .unset, .unset, .unset] [])) _
          refine st242 _ ?_
          show Steps p.tables e below (T242.setTop (mkF m 52 #[.val (.long P0), .second, .val (.int P1), .val (.long P2), .second, .val (.int P3), .val (.int P4), .val (.long (tf1_0 P0)), .second, .val (.int (tf2_0 P1)), .val (.long (tf1_0 P0)), .second, .val (.int (tf2_0 P1)), .unset, .unset, .unset, .unset] [(.ref b242)])) _
          refine XS.dup X242.here hx rfl (hb hby at_52) rfl rfl ?_
          show Steps p.tables e below (T242.setTop (mkF m 53 #[.val (.long P0), .second, .val (.int P1), .val (.long P2), .second, .val (.int P3), .val (.int P4), .val (.long (tf1_0 P0)), .second, .val (.int (tf2_0 P1)), .val (.long (tf1_0 P0)), .second, .val (.int (tf2_0 P1)), .unset, .unset, .unset, .unset] [(.ref b242), (.ref b242)])) _
          refine XS.lload X242.here hx rfl (hb hby at_53) rfl ?_
          show Steps p.tables e below (T242.setTop (mkF m 55 #[.val (.long P0), .second, .val (.int P1), .val (.long P2), .second, .val (.int P3), .val (.int P4), .val (.long (tf1_0 P0)), .second, .val (.int (tf2_0 P1)), .val (.long (tf1_0 P0)), .second, .val (.int (tf2_0 P1)), .unset, .unset, .unset, .unset] [(.long (tf1_0 P0)), (.ref b242), (.ref b242)])) _
          refine XS.iload X242.here hx rfl (hb hby at_55) rfl ?_
          show Steps p.tables e below (T242.setTop (mkF m 57 #[.val (.long P0), .second, .val (.int P1), .val (.long P2), .second, .val (.int P3), .val (.int P4), .val (.long (tf1_0 P0)), .second, .val (.int (tf2_0 P1)), .val (.long (tf1_0 P0)), .second, .val (.int (tf2_0 P1)), .unset, .unset, .unset, .unset] [(.int (tf2_0 P1)), (.long (tf1_0 P0)), (.ref b242), (.ref b242)])) _
          refine st246.trans ?_
          show Steps p.tables e below (T246.setTop (mkF m 60 #[.val (.long P0), .second, .val (.int P1), .val (.long P2), .second, .val (.int P3), .val (.int P4), .val (.long (tf1_0 P0)), .second, .val (.int (tf2_0 P1)), .val (.long (tf1_0 P0)), .second, .val (.int (tf2_0 P1)), .unset, .unset, .unset, .unset] [(.ref b242)])) _
          refine XS.astore X246.here hx rfl (hb hby at_60) rfl rfl (l' := #[.val (.long P0), .second, .val (.int P1), .val (.long P2), .second, .val (.int P3), .val (.int P4), .val (.long (tf1_0 P0)), .second, .val (.int (tf2_0 P1)), .val (.long (tf1_0 P0)), .second, .val (.int (tf2_0 P1)), .val (.ref b242), .unset, .unset, .unset]) rfl ?_
          show Steps p.tables e below (T246.setTop (mkF m 62 #[.val (.long P0), .second, .val (.int P1), .val (.long P2), .second, .val (.int P3), .val (.int P4), .val (.long (tf1_0 P0)), .second, .val (.int (tf2_0 P1)), .val (.long (tf1_0 P0)), .second, .val (.int (tf2_0 P1)), .val (.ref b242), .unset, .unset, .unset] [])) _
          refine st248 _ ?_
          show Steps p.tables e below (T248.setTop (mkF m 65 #[.val (.long P0), .second, .val (.int P1), .val (.long P2), .second, .val (.int P3), .val (.int P4), .val (.long (tf1_0 P0)), .second, .val (.int (tf2_0 P1)), .val (.long (tf1_0 P0)), .second, .val (.int (tf2_0 P1)), .val (.ref b242), .unset, .unset, .unset] [(.ref b248)])) _
          refine XS.dup X248.here hx rfl (hb hby at_65) rfl rfl ?_
          show Steps p.tables e below (T248.setTop (mkF m 66 #[.val (.long P0), .second, .val (.int P1), .val (.long P2), .second, .val (.int P3), .val (.int P4), .val (.long (tf1_0 P0)), .second, .val (.int (tf2_0 P1)), .val (.long (tf1_0 P0)), .second, .val (.int (tf2_0 P1)), .val (.ref b242), .unset, .unset, .unset] [(.ref b248), (.ref b248)])) _
          refine XS.lload X248.here hx rfl (hb hby at_66) rfl ?_
          show Steps p.tables e below (T248.setTop (mkF m 68 #[.val (.long P0), .second, .val (.int P1), .val (.long P2), .second, .val (.int P3), .val (.int P4), .val (.long (tf1_0 P0)), .second, .val (.int (tf2_0 P1)), .val (.long (tf1_0 P0)), .second, .val (.int (tf2_0 P1)), .val (.ref b242), .unset, .unset, .unset] [(.long (tf1_0 P0)), (.ref b248), (.ref b248)])) _
          refine XS.iload X248.here hx rfl (hb hby at_68) rfl ?_
          show Steps p.tables e below (T248.setTop (mkF m 70 #[.val (.long P0), .second, .val (.int P1), .val (.long P2), .second, .val (.int P3), .val (.int P4), .val (.long (tf1_0 P0)), .second, .val (.int (tf2_0 P1)), .val (.long (tf1_0 P0)), .second, .val (.int (tf2_0 P1)), .val (.ref b242), .unset, .unset, .unset] [(.int (tf2_0 P1)), (.long (tf1_0 P0)), (.ref b248), (.ref b248)])) _
          refine st254.trans ?_
          show Steps p.tables e below (T254.setTop (mkF m 73 #[.val (.long P0), .second, .val (.int P1), .val (.long P2), .second, .val (.int P3), .val (.int P4), .val (.long (tf1_0 P0)), .second, .val (.int (tf2_0 P1)), .val (.long (tf1_0 P0)), .second, .val (.int (tf2_0 P1)), .val (.ref b242), .unset, .unset, .unset] [(.ref b248)])) _
          refine XS.astore X254.here hx rfl (hb hby at_73) rfl rfl (l' := #[.val (.long P0), .second, .val (.int P1), .val (.long P2), .second, .val (.int P3), .val (.int P4), .val (.long (tf1_0 P0)), .second, .val (.int (tf2_0 P1)), .val (.long (tf1_0 P0)), .second, .val (.int (tf2_0 P1)), .val (.ref b242), .val (.ref b248), .unset, .unset]) rfl ?_
          show Steps p.tables e below (T254.setTop (mkF m 75 #[.val (.long P0), .second, .val (.int P1), .val (.long P2), .second, .val (.int P3), .val (.int P4), .val (.long (tf1_0 P0)), .second, .val (.int (tf2_0 P1)), .val (.long (tf1_0 P0)), .second, .val (.int (tf2_0 P1)), .val (.ref b242), .val (.ref b248), .unset, .unset] [])) _
          refine XS.iload X254.here hx rfl (hb hby at_75) rfl ?_
          show Steps p.tables e below (T254.setTop (mkF m 77 #[.val (.long P0), .second, .val (.int P1), .val (.long P2), .second, .val (.int P3), .val (.int P4), .val (.long (tf1_0 P0)), .second, .val (.int (tf2_0 P1)), .val (.long (tf1_0 P0)), .second, .val (.int (tf2_0 P1)), .val (.ref b242), .val (.ref b248), .unset, .unset] [(.int P4)])) _
          refine XS.iconst X254.here hx rfl (hb hby at_77) ?_
          show Steps p.tables e below (T254.setTop (mkF m 78 #[.val (.long P0), .second, .val (.int P1), .val (.long P2), .second, .val (.int P3), .val (.int P4), .val (.long (tf1_0 P0)), .second, .val (.int (tf2_0 P1)), .val (.long (tf1_0 P0)), .second, .val (.int (tf2_0 P1)), .val (.ref b242), .val (.ref b248), .unset, .unset] [(.int (2 : Int32)), (.int P4)])) _
          refine XS.iushr X254.here hx rfl (hb hby at_78) rfl ?_
          show Steps p.tables e below (T254.setTop (mkF m 79 #[.val (.long P0), .second, .val (.int P1), .val (.long P2), .second, .val (.int P3), .val (.int P4), .val (.long (tf1_0 P0)), .second, .val (.int (tf2_0 P1)), .val (.long (tf1_0 P0)), .second, .val (.int (tf2_0 P1)), .val (.ref b242), .val (.ref b248), .unset, .unset] [(.int ((P4.toUInt32 >>> ((2 : Int32) &&& 31).toUInt32).toInt32))])) _
          refine XS.iconst X254.here hx rfl (hb hby at_79) ?_
          show Steps p.tables e below (T254.setTop (mkF m 80 #[.val (.long P0), .second, .val (.int P1), .val (.long P2), .second, .val (.int P3), .val (.int P4), .val (.long (tf1_0 P0)), .second, .val (.int (tf2_0 P1)), .val (.long (tf1_0 P0)), .second, .val (.int (tf2_0 P1)), .val (.ref b242), .val (.ref b248), .unset, .unset] [(.int (3 : Int32)), (.int ((P4.toUInt32 >>> ((2 : Int32) &&& 31).toUInt32).toInt32))])) _
          refine XS.iand X254.here hx rfl (hb hby at_80) rfl ?_
          show Steps p.tables e below (T254.setTop (mkF m 81 #[.val (.long P0), .second, .val (.int P1), .val (.long P2), .second, .val (.int P3), .val (.int P4), .val (.long (tf1_0 P0)), .second, .val (.int (tf2_0 P1)), .val (.long (tf1_0 P0)), .second, .val (.int (tf2_0 P1)), .val (.ref b242), .val (.ref b248), .unset, .unset] [(.int (((P4.toUInt32 >>> ((2 : Int32) &&& 31).toUInt32).toInt32) &&& (3 : Int32)))])) _
          refine XS.istore X254.here hx rfl (hb hby at_81) rfl (l' := #[.val (.long P0), .second, .val (.int P1), .val (.long P2), .second, .val (.int P3), .val (.int P4), .val (.long (tf1_0 P0)), .second, .val (.int (tf2_0 P1)), .val (.long (tf1_0 P0)), .second, .val (.int (tf2_0 P1)), .val (.ref b242), .val (.ref b248), .val (.int (((P4.toUInt32 >>> ((2 : Int32) &&& 31).toUInt32).toInt32) &&& (3 : Int32))), .unset]) rfl ?_
          show Steps p.tables e below (T254.setTop (mkF m 83 #[.val (.long P0), .second, .val (.int P1), .val (.long P2), .second, .val (.int P3), .val (.int P4), .val (.long (tf1_0 P0)), .second, .val (.int (tf2_0 P1)), .val (.long (tf1_0 P0)), .second, .val (.int (tf2_0 P1)), .val (.ref b242), .val (.ref b248), .val (.int (((P4.toUInt32 >>> ((2 : Int32) &&& 31).toUInt32).toInt32) &&& (3 : Int32))), .unset] [])) _
          refine XS.iload X254.here hx rfl (hb hby at_83) rfl ?_
          show Steps p.tables e below (T254.setTop (mkF m 85 #[.val (.long P0), .second, .val (.int P1), .val (.long P2), .second, .val (.int P3), .val (.int P4), .val (.long (tf1_0 P0)), .second, .val (.int (tf2_0 P1)), .val (.long (tf1_0 P0)), .second, .val (.int (tf2_0 P1)), .val (.ref b242), .val (.ref b248), .val (.int (((P4.toUInt32 >>> ((2 : Int32) &&& 31).toUInt32).toInt32) &&& (3 : Int32))), .unset] [(.int (((P4.toUInt32 >>> ((2 : Int32) &&& 31).toUInt32).toInt32) &&& (3 : Int32)))])) _
          refine XS.iconst X254.here hx rfl (hb hby at_85) ?_
          exact kt)
      by_cases hc86 : (((P4.toUInt32 >>> ((2 : Int32) &&& 31).toUInt32).toInt32) &&& (3 : Int32)) = (1 : Int32)
      · have c258 : Exa Z T254.heap b242 "com/example/kept_reads/keptreads/wire/ReadGroup" := ((p246_0.ext E248).keep K254)
        obtain ⟨cq257, kq257, q257a, q257b, q257c⟩ := isOf hZ rfl c258
        obtain ⟨_, _, ⟨T257, L257, k257, n257⟩, -, X257, ⟨Lc257, hQ257, l257, y257, z257⟩, st257⟩ := X254.virtualBack hx (y := (⟨"com/example/kept_reads/keptreads/wire/ReadGroup", "equals", "(Ljava/lang/Object;)Z"⟩ : MethodName)) (z := (⟨"com/example/kept_reads/keptreads/wire/ReadGroup", "equals", "(Ljava/lang/Object;)Z"⟩ : MethodName)) hown (mvT hZ (hw _ (List.mem_of_getElem? (i := 21) rfl))) (mvT hZ (hw _ (List.mem_of_getElem? (i := 22) rfl))) (notFace_of_selects (args := #[]) (mvT hZ (hw _ (List.mem_of_getElem? (i := 24) rfl)))) (mvT hZ (hw _ (List.mem_of_getElem? (i := 24) rfl))) (mvT hZ (hw _ (List.mem_of_getElem? (i := 23) rfl))) (by decide) (backOf (W := 0) (rmeqS l Z a0 hw [] b242 b242 T254.heap n0 Z255 (show b242 = b242 from rfl)) hZ (hw _ (List.mem_of_getElem? (i := 25) rfl)) (hw _ (List.mem_of_getElem? (i := 10) rfl)) (by decide) (by decide)) q257a q257c (g := (mkF m 93 #[.val (.long P0), .second, .val (.int P1), .val (.long P2), .second, .val (.int P3), .val (.int P4), .val (.long (tf1_0 P0)), .second, .val (.int (tf2_0 P1)), .val (.long (tf1_0 P0)), .second, .val (.int (tf2_0 P1)), .val (.ref b242), .val (.ref b248), .val (.int (((P4.toUInt32 >>> ((2 : Int32) &&& 31).toUInt32).toInt32) &&& (3 : Int32))), .unset] [(.ref b242), (.ref b242)])) rfl (by rw [hml]; rfl) (Steps.refl _) (argsL := [(.ref b242)]) (rest := []) (lenOf pd_0_3 rfl) rfl (by show 2 * 0 + _ ≤ _; exact Nat.le_of_eq rfl) (hb hby at_93) (fun _ _ => ⟨rfl, rfl, (by decide : 2 + 0 ≤ _), (by decide : 4 + 0 ≤ _)⟩)
        dsimp only [Pt.U, Pt.locs, Pt.cells, Pt.slots] at X257 l257 y257 z257 st257 hQ257
        subst l257 y257 z257
        obtain ⟨rfl, N257q, K257⟩ := hQ257
        have N257 := Fr.app N254 N257q
        have pre259 : ∀ t, Steps p.tables e below (T257.setTop (mkF m 96 #[.val (.long P0), .second, .val (.int P1), .val (.long P2), .second, .val (.int P3), .val (.int P4), .val (.long (tf1_0 P0)), .second, .val (.int (tf2_0 P1)), .val (.long (tf1_0 P0)), .second, .val (.int (tf2_0 P1)), .val (.ref b242), .val (.ref b248), .val (.int (((P4.toUInt32 >>> ((2 : Int32) &&& 31).toUInt32).toInt32) &&& (3 : Int32))), .unset] [(.int (1 : Int32))])) t → Steps p.tables e below (s₁.setTop (entryFrame m #[(.long P0), (.int P1), (.long P2), (.int P3), (.int P4)] maxLocals)) t := fun t kt => pre256 t (by
            show Steps p.tables e below (T254.setTop (mkF m 86 #[.val (.long P0), .second, .val (.int P1), .val (.long P2), .second, .val (.int P3), .val (.int P4), .val (.long (tf1_0 P0)), .second, .val (.int (tf2_0 P1)), .val (.long (tf1_0 P0)), .second, .val (.int (tf2_0 P1)), .val (.ref b242), .val (.ref b248), .val (.int (((P4.toUInt32 >>> ((2 : Int32) &&& 31).toUInt32).toInt32) &&& (3 : Int32))), .unset] [(.int (1 : Int32)), (.int (((P4.toUInt32 >>> ((2 : Int32) &&& 31).toUInt32).toInt32) &&& (3 : Int32)))])) _
            refine XS.icmpNo X254.here hx rfl (hb hby at_86) rfl (teq hc86).2 ?_
            show Steps p.tables e below (T254.setTop (mkF m 89 #[.val (.long P0), .second, .val (.int P1), .val (.long P2), .second, .val (.int P3), .val (.int P4), .val (.long (tf1_0 P0)), .second, .val (.int (tf2_0 P1)), .val (.long (tf1_0 P0)), .second, .val (.int (tf2_0 P1)), .val (.ref b242), .val (.ref b248), .val (.int (((P4.toUInt32 >>> ((2 : Int32) &&& 31).toUInt32).toInt32) &&& (3 : Int32))), .unset] [])) _
            refine XS.aload X254.here hx rfl (hb hby at_89) rfl rfl ?_
            show Steps p.tables e below (T254.setTop (mkF m 91 #[.val (.long P0), .second, .val (.int P1), .val (.long P2), .second, .val (.int P3), .val (.int P4), .val (.long (tf1_0 P0)), .second, .val (.int (tf2_0 P1)), .val (.long (tf1_0 P0)), .second, .val (.int (tf2_0 P1)), .val (.ref b242), .val (.ref b248), .val (.int (((P4.toUInt32 >>> ((2 : Int32) &&& 31).toUInt32).toInt32) &&& (3 : Int32))), .unset] [(.ref b242)])) _
            refine XS.aload X254.here hx rfl (hb hby at_91) rfl rfl ?_
            show Steps p.tables e below (T254.setTop (mkF m 93 #[.val (.long P0), .second, .val (.int P1), .val (.long P2), .second, .val (.int P3), .val (.int P4), .val (.long (tf1_0 P0)), .second, .val (.int (tf2_0 P1)), .val (.long (tf1_0 P0)), .second, .val (.int (tf2_0 P1)), .val (.ref b242), .val (.ref b248), .val (.int (((P4.toUInt32 >>> ((2 : Int32) &&& 31).toUInt32).toInt32) &&& (3 : Int32))), .unset] [(.ref b242), (.ref b242)])) _
            refine st257.trans ?_
            exact kt)
        obtain ⟨fs, hr, hrun, hended, hW, hsame⟩ := X257.leave (v := some (.int (1 : Int32))) (fun h => by rw [Bd.returns] at h; cases h)
        refine ⟨_, _, pre259 _ ?_, hrun, hended, _, _, rfl, ?_, ⟨_, rfl⟩, hW, hsame.mono (by decide) (by decide)⟩
        · show Steps p.tables e below (T257.setTop (mkF m 96 #[.val (.long P0), .second, .val (.int P1), .val (.long P2), .second, .val (.int P3), .val (.int P4), .val (.long (tf1_0 P0)), .second, .val (.int (tf2_0 P1)), .val (.long (tf1_0 P0)), .second, .val (.int (tf2_0 P1)), .val (.ref b242), .val (.ref b248), .val (.int (((P4.toUInt32 >>> ((2 : Int32) &&& 31).toUInt32).toInt32) &&& (3 : Int32))), .unset] [(.int (1 : Int32))])) _
          exact retN X257 hx (t := .boolean) Bd.returns (by simp) (hb hby at_96) hr
        · show Q0 Z P0 P1 P2 P3 P4 U0 h0 n0 _ T257.heap _
          rw [K257]
          exact ⟨rfl, N257⟩
      · have pre260 : ∀ t, Steps p.tables e below (T254.setTop (mkF m 100 #[.val (.long P0), .second, .val (.int P1), .val (.long P2), .second, .val (.int P3), .val (.int P4), .val (.long (tf1_0 P0)), .second, .val (.int (tf2_0 P1)), .val (.long (tf1_0 P0)), .second, .val (.int (tf2_0 P1)), .val (.ref b242), .val (.ref b248), .val (.int (((P4.toUInt32 >>> ((2 : Int32) &&& 31).toUInt32).toInt32) &&& (3 : Int32))), .unset] [(.int (2 : Int32)), (.int (((P4.toUInt32 >>> ((2 : Int32) &&& 31).toUInt32).toInt32) &&& (3 : Int32)))])) t → Steps p.tables e below (s₁.setTop (entryFrame m #[(.long P0), (.int P1), (.long P2), (.int P3), (.int P4)] maxLocals)) t := fun t kt => pre256 t (by
            show Steps p.tables e below (T254.setTop (mkF m 86 #[.val (.long P0), .second, .val (.int P1), .val (.long P2), .second, .val (.int P3), .val (.int P4), .val (.long (tf1_0 P0)), .second, .val (.int (tf2_0 P1)), .val (.long (tf1_0 P0)), .second, .val (.int (tf2_0 P1)), .val (.ref b242), .val (.ref b248), .val (.int (((P4.toUInt32 >>> ((2 : Int32) &&& 31).toUInt32).toInt32) &&& (3 : Int32))), .unset] [(.int (1 : Int32)), (.int (((P4.toUInt32 >>> ((2 : Int32) &&& 31).toUInt32).toInt32) &&& (3 : Int32)))])) _
            refine XS.icmpYes X254.here hx rfl (pc0 := 86) (pc' := 97) rfl (hb hby at_86) rfl (feq hc86).2 (by decide) (by decide) ?_
            show Steps p.tables e below (T254.setTop (mkF m 97 #[.val (.long P0), .second, .val (.int P1), .val (.long P2), .second, .val (.int P3), .val (.int P4), .val (.long (tf1_0 P0)), .second, .val (.int (tf2_0 P1)), .val (.long (tf1_0 P0)), .second, .val (.int (tf2_0 P1)), .val (.ref b242), .val (.ref b248), .val (.int (((P4.toUInt32 >>> ((2 : Int32) &&& 31).toUInt32).toInt32) &&& (3 : Int32))), .unset] [])) _
            refine XS.iload X254.here hx rfl (hb hby at_97) rfl ?_
            show Steps p.tables e below (T254.setTop (mkF m 99 #[.val (.long P0), .second, .val (.int P1), .val (.long P2), .second, .val (.int P3), .val (.int P4), .val (.long (tf1_0 P0)), .second, .val (.int (tf2_0 P1)), .val (.long (tf1_0 P0)), .second, .val (.int (tf2_0 P1)), .val (.ref b242), .val (.ref b248), .val (.int (((P4.toUInt32 >>> ((2 : Int32) &&& 31).toUInt32).toInt32) &&& (3 : Int32))), .unset] [(.int (((P4.toUInt32 >>> ((2 : Int32) &&& 31).toUInt32).toInt32) &&& (3 : Int32)))])) _
            refine XS.iconst X254.here hx rfl (hb hby at_99) ?_
            exact kt)
        by_cases hc100 : (((P4.toUInt32 >>> ((2 : Int32) &&& 31).toUInt32).toInt32) &&& (3 : Int32)) = (2 : Int32)
        · have c262 : Exa Z T254.heap b242 "com/example/kept_reads/keptreads/wire/ReadGroup" := ((p246_0.ext E248).keep K254)
          obtain ⟨cq261, kq261, q261a, q261b, q261c⟩ := isOf hZ rfl c262
          obtain ⟨_, _, ⟨T261, L261, k261, n261⟩, -, X261, ⟨Lc261, hQ261, l261, y261, z261⟩, st261⟩ := X254.virtualBack hx (y := (⟨"com/example/kept_reads/keptreads/wire/ReadGroup", "equals", "(Ljava/lang/Object;)Z"⟩ : MethodName)) (z := (⟨"com/example/kept_reads/keptreads/wire/ReadGroup", "equals", "(Ljava/lang/Object;)Z"⟩ : MethodName)) hown (mvT hZ (hw _ (List.mem_of_getElem? (i := 21) rfl))) (mvT hZ (hw _ (List.mem_of_getElem? (i := 22) rfl))) (notFace_of_selects (args := #[]) (mvT hZ (hw _ (List.mem_of_getElem? (i := 24) rfl)))) (mvT hZ (hw _ (List.mem_of_getElem? (i := 24) rfl))) (mvT hZ (hw _ (List.mem_of_getElem? (i := 23) rfl))) (by decide) (backOf (W := 0) (rmeqN l Z a0 hw [] b242 T254.heap n0 Z255 ) hZ (hw _ (List.mem_of_getElem? (i := 25) rfl)) (hw _ (List.mem_of_getElem? (i := 10) rfl)) (by decide) (by decide)) q261a q261c (g := (mkF m 106 #[.val (.long P0), .second, .val (.int P1), .val (.long P2), .second, .val (.int P3), .val (.int P4), .val (.long (tf1_0 P0)), .second, .val (.int (tf2_0 P1)), .val (.long (tf1_0 P0)), .second, .val (.int (tf2_0 P1)), .val (.ref b242), .val (.ref b248), .val (.int (((P4.toUInt32 >>> ((2 : Int32) &&& 31).toUInt32).toInt32) &&& (3 : Int32))), .unset] [.null, (.ref b242)])) rfl (by rw [hml]; rfl) (Steps.refl _) (argsL := [.null]) (rest := []) (lenOf pd_0_3 rfl) rfl (by show 2 * 0 + _ ≤ _; exact Nat.le_of_eq rfl) (hb hby at_106) (fun _ _ => ⟨rfl, rfl, (by decide : 2 + 0 ≤ _), (by decide : 4 + 0 ≤ _)⟩)
          dsimp only [Pt.U, Pt.locs, Pt.cells, Pt.slots] at X261 l261 y261 z261 st261 hQ261
          subst l261 y261 z261
          obtain ⟨rfl, N261q, K261⟩ := hQ261
          have N261 := Fr.app N254 N261q
          have pre263 : ∀ t, Steps p.tables e below (T261.setTop (mkF m 117 #[.val (.long P0), .second, .val (.int P1), .val (.long P2), .second, .val (.int P3), .val (.int P4), .val (.long (tf1_0 P0)), .second, .val (.int (tf2_0 P1)), .val (.long (tf1_0 P0)), .second, .val (.int (tf2_0 P1)), .val (.ref b242), .val (.ref b248), .val (.int (((P4.toUInt32 >>> ((2 : Int32) &&& 31).toUInt32).toInt32) &&& (3 : Int32))), .unset] [(.int (1 : Int32))])) t → Steps p.tables e below (s₁.setTop (entryFrame m #[(.long P0), (.int P1), (.long P2), (.int P3), (.int P4)] maxLocals)) t := fun t kt => pre260 t (by
              show Steps p.tables e below (T254.setTop (mkF m 100 #[.val (.long P0), .second, .val (.int P1), .val (.long P2), .second, .val (.int P3), .val (.int P4), .val (.long (tf1_0 P0)), .second, .val (.int (tf2_0 P1)), .val (.long (tf1_0 P0)), .second, .val (.int (tf2_0 P1)), .val (.ref b242), .val (.ref b248), .val (.int (((P4.toUInt32 >>> ((2 : Int32) &&& 31).toUInt32).toInt32) &&& (3 : Int32))), .unset] [(.int (2 : Int32)), (.int (((P4.toUInt32 >>> ((2 : Int32) &&& 31).toUInt32).toInt32) &&& (3 : Int32)))])) _
              refine XS.icmpNo X254.here hx rfl (hb hby at_100) rfl (teq hc100).2 ?_
              show Steps p.tables e below (T254.setTop (mkF m 103 #[.val (.long P0), .second, .val (.int P1), .val (.long P2), .second, .val (.int P3), .val (.int P4), .val (.long (tf1_0 P0)), .second, .val (.int (tf2_0 P1)), .val (.long (tf1_0 P0)), .second, .val (.int (tf2_0 P1)), .val (.ref b242), .val (.ref b248), .val (.int (((P4.toUInt32 >>> ((2 : Int32) &&& 31).toUInt32).toInt32) &&& (3 : Int32))), .unset] [])) _
              refine XS.aload X254.here hx rfl (hb hby at_103) rfl rfl ?_
              show Steps p.tables e below (T254.setTop (mkF m 105 #[.val (.long P0), .second, .val (.int P1), .val (.long P2), .second, .val (.int P3), .val (.int P4), .val (.long (tf1_0 P0)), .second, .val (.int (tf2_0 P1)), .val (.long (tf1_0 P0)), .second, .val (.int (tf2_0 P1)), .val (.ref b242), .val (.ref b248), .val (.int (((P4.toUInt32 >>> ((2 : Int32) &&& 31).toUInt32).toInt32) &&& (3 : Int32))), .unset] [(.ref b242)])) _
              refine XS.aconstNull X254.here hx rfl (hb hby at_105) ?_
              show Steps p.tables e below (T254.setTop (mkF m 106 #[.val (.long P0), .second, .val (.int P1), .val (.long P2), .second, .val (.int P3), .val (.int P4), .val (.long (tf1_0 P0)), .second, .val (.int (tf2_0 P1)), .val (.long (tf1_0 P0)), .second, .val (.int (tf2_0 P1)), .val (.ref b242), .val (.ref b248), .val (.int (((P4.toUInt32 >>> ((2 : Int32) &&& 31).toUInt32).toInt32) &&& (3 : Int32))), .unset] [.null, (.ref b242)])) _
              refine st261.trans ?_
              show Steps p.tables e below (T261.setTop (mkF m 109 #[.val (.long P0), .second, .val (.int P1), .val (.long P2), .second, .val (.int P3), .val (.int P4), .val (.long (tf1_0 P0)), .second, .val (.int (tf2_0 P1)), .val (.long (tf1_0 P0)), .second, .val (.int (tf2_0 P1)), .val (.ref b242), .val (.ref b248), .val (.int (((P4.toUInt32 >>> ((2 : Int32) &&& 31).toUInt32).toInt32) &&& (3 : Int32))), .unset] [(.int (0 : Int32))])) _
              refine XS.ifNo X261.here hx rfl (hb hby at_109) rfl ((if0 _ _).trans (teq (show (0 : Int32) = (0 : Int32) from (by decide))).2) ?_
              show Steps p.tables e below (T261.setTop (mkF m 112 #[.val (.long P0), .second, .val (.int P1), .val (.long P2), .second, .val (.int P3), .val (.int P4), .val (.long (tf1_0 P0)), .second, .val (.int (tf2_0 P1)), .val (.long (tf1_0 P0)), .second, .val (.int (tf2_0 P1)), .val (.ref b242), .val (.ref b248), .val (.int (((P4.toUInt32 >>> ((2 : Int32) &&& 31).toUInt32).toInt32) &&& (3 : Int32))), .unset] [])) _
              refine XS.iconst X261.here hx rfl (hb hby at_112) ?_
              show Steps p.tables e below (T261.setTop (mkF m 113 #[.val (.long P0), .second, .val (.int P1), .val (.long P2), .second, .val (.int P3), .val (.int P4), .val (.long (tf1_0 P0)), .second, .val (.int (tf2_0 P1)), .val (.long (tf1_0 P0)), .second, .val (.int (tf2_0 P1)), .val (.ref b242), .val (.ref b248), .val (.int (((P4.toUInt32 >>> ((2 : Int32) &&& 31).toUInt32).toInt32) &&& (3 : Int32))), .unset] [(.int (1 : Int32))])) _
              refine XS.goto X261.here hx rfl (pc0 := 113) (pc' := 117) rfl (hb hby at_113) (by decide) (by decide) ?_
              exact kt)
          obtain ⟨fs, hr, hrun, hended, hW, hsame⟩ := X261.leave (v := some (.int (1 : Int32))) (fun h => by rw [Bd.returns] at h; cases h)
          refine ⟨_, _, pre263 _ ?_, hrun, hended, _, _, rfl, ?_, ⟨_, rfl⟩, hW, hsame.mono (by decide) (by decide)⟩
          · show Steps p.tables e below (T261.setTop (mkF m 117 #[.val (.long P0), .second, .val (.int P1), .val (.long P2), .second, .val (.int P3), .val (.int P4), .val (.long (tf1_0 P0)), .second, .val (.int (tf2_0 P1)), .val (.long (tf1_0 P0)), .second, .val (.int (tf2_0 P1)), .val (.ref b242), .val (.ref b248), .val (.int (((P4.toUInt32 >>> ((2 : Int32) &&& 31).toUInt32).toInt32) &&& (3 : Int32))), .unset] [(.int (1 : Int32))])) _
            exact retN X261 hx (t := .boolean) Bd.returns (by simp) (hb hby at_117) hr
          · show Q0 Z P0 P1 P2 P3 P4 U0 h0 n0 _ T261.heap _
            rw [K261]
            exact ⟨rfl, N261⟩
        · have pre264 : ∀ t, Steps p.tables e below (T254.setTop (mkF m 121 #[.val (.long P0), .second, .val (.int P1), .val (.long P2), .second, .val (.int P3), .val (.int P4), .val (.long (tf1_0 P0)), .second, .val (.int (tf2_0 P1)), .val (.long (tf1_0 P0)), .second, .val (.int (tf2_0 P1)), .val (.ref b242), .val (.ref b248), .val (.int (((P4.toUInt32 >>> ((2 : Int32) &&& 31).toUInt32).toInt32) &&& (3 : Int32))), .unset] [(.int (3 : Int32)), (.int (((P4.toUInt32 >>> ((2 : Int32) &&& 31).toUInt32).toInt32) &&& (3 : Int32)))])) t → Steps p.tables e below (s₁.setTop (entryFrame m #[(.long P0), (.int P1), (.long P2), (.int P3), (.int P4)] maxLocals)) t := fun t kt => pre260 t (by
              show Steps p.tables e below (T254.setTop (mkF m 100 #[.val (.long P0), .second, .val (.int P1), .val (.long P2), .second, .val (.int P3), .val (.int P4), .val (.long (tf1_0 P0)), .second, .val (.int (tf2_0 P1)), .val (.long (tf1_0 P0)), .second, .val (.int (tf2_0 P1)), .val (.ref b242), .val (.ref b248), .val (.int (((P4.toUInt32 >>> ((2 : Int32) &&& 31).toUInt32).toInt32) &&& (3 : Int32))), .unset] [(.int (2 : Int32)), (.int (((P4.toUInt32 >>> ((2 : Int32) &&& 31).toUInt32).toInt32) &&& (3 : Int32)))])) _
              refine XS.icmpYes X254.here hx rfl (pc0 := 100) (pc' := 118) rfl (hb hby at_100) rfl (feq hc100).2 (by decide) (by decide) ?_
              show Steps p.tables e below (T254.setTop (mkF m 118 #[.val (.long P0), .second, .val (.int P1), .val (.long P2), .second, .val (.int P3), .val (.int P4), .val (.long (tf1_0 P0)), .second, .val (.int (tf2_0 P1)), .val (.long (tf1_0 P0)), .second, .val (.int (tf2_0 P1)), .val (.ref b242), .val (.ref b248), .val (.int (((P4.toUInt32 >>> ((2 : Int32) &&& 31).toUInt32).toInt32) &&& (3 : Int32))), .unset] [])) _
              refine XS.iload X254.here hx rfl (hb hby at_118) rfl ?_
              show Steps p.tables e below (T254.setTop (mkF m 120 #[.val (.long P0), .second, .val (.int P1), .val (.long P2), .second, .val (.int P3), .val (.int P4), .val (.long (tf1_0 P0)), .second, .val (.int (tf2_0 P1)), .val (.long (tf1_0 P0)), .second, .val (.int (tf2_0 P1)), .val (.ref b242), .val (.ref b248), .val (.int (((P4.toUInt32 >>> ((2 : Int32) &&& 31).toUInt32).toInt32) &&& (3 : Int32))), .unset] [(.int (((P4.toUInt32 >>> ((2 : Int32) &&& 31).toUInt32).toInt32) &&& (3 : Int32)))])) _
              refine XS.iconst X254.here hx rfl (hb hby at_120) ?_
              exact kt)
          by_cases hc121 : (((P4.toUInt32 >>> ((2 : Int32) &&& 31).toUInt32).toInt32) &&& (3 : Int32)) = (3 : Int32)
          · have c265 : own_Cac Z T254.heap "java/lang/Long" U0 := ((c250.ext E248).keep K254 (ninS ne249 nin0))
            obtain ⟨_, _, ⟨T266, L266, k266, n266⟩, -, X266, ⟨Lc266, hQ266, l266, y266, z266⟩, st266⟩ := Jvm.LawKit.callS X254 hx (y := (⟨"java/lang/Long", "valueOf", "(J)Ljava/lang/Long;"⟩ : MethodName)) hown (mvT hZ (hw _ (List.mem_of_getElem? (i := 28) rfl))) (mvT hZ (hw _ (List.mem_of_getElem? (i := 29) rfl))) (mvT hZ (hw _ (List.mem_of_getElem? (i := 30) rfl))) (mvT hZ (hw _ (List.mem_of_getElem? (i := 31) rfl))) (by decide) (backOf (W := 0) (rm6 l Z a0 hw [] (tf1_0 P0) U0 T254.heap n0 Z255 ss254_0 c265) hZ (hw _ (List.mem_of_getElem? (i := 31) rfl)) (hw _ (List.mem_of_getElem? (i := 30) rfl)) (by decide) (by decide)) (g := (mkF m 126 #[.val (.long P0), .second, .val (.int P1), .val (.long P2), .second, .val (.int P3), .val (.int P4), .val (.long (tf1_0 P0)), .second, .val (.int (tf2_0 P1)), .val (.long (tf1_0 P0)), .second, .val (.int (tf2_0 P1)), .val (.ref b242), .val (.ref b248), .val (.int (((P4.toUInt32 >>> ((2 : Int32) &&& 31).toUInt32).toInt32) &&& (3 : Int32))), .unset] [(.long (tf1_0 P0))])) rfl (by rw [hml]; rfl) (argsL := [(.long (tf1_0 P0))]) (rest := []) (lenOf pd_0_4 rfl) rfl (by show 2 * 0 + _ ≤ _; exact Nat.le_of_eq rfl) (hb hby at_126) (fun _ _ => ⟨rfl, rfl, (by decide : 2 + 1 ≤ _), (by decide : 4 + 1 ≤ _)⟩)
            dsimp only [Pt.U, Pt.locs, Pt.cells, Pt.slots] at X266 l266 y266 z266 st266 hQ266
            subst l266 y266 z266
            obtain ⟨x266_R0, rfl, N266q, K266, p266_0⟩ := hQ266
            have N266 := Fr.app N254 N266q
            have Z267 : n0 ≤ T266.heap.size := Nat.le_trans Z255 K266.1
            have ss266_0 : Sta Z T266.heap "java/lang/Long$LongCache" "cache" "[Ljava/lang/Long;" (.ref U0) := own_sta_keep ss254_0 K266 all0
            have c268 : Exa Z T266.heap b242 "com/example/kept_reads/keptreads/wire/ReadGroup" := (((p246_0.ext E248).keep K254).keep K266)
            obtain ⟨cq269, kq269, q269a, q269b, q269c⟩ := isOf hZ rfl c268
            obtain ⟨_, _, ⟨T269, L269, k269, n269⟩, -, X269, ⟨Lc269, hQ269, l269, y269, z269⟩, st269⟩ := X266.virtualBack hx (y := (⟨"com/example/kept_reads/keptreads/wire/ReadGroup", "equals", "(Ljava/lang/Object;)Z"⟩ : MethodName)) (z := (⟨"com/example/kept_reads/keptreads/wire/ReadGroup", "equals", "(Ljava/lang/Object;)Z"⟩ : MethodName)) hown (mvT hZ (hw _ (List.mem_of_getElem? (i := 21) rfl))) (mvT hZ (hw _ (List.mem_of_getElem? (i := 22) rfl))) (notFace_of_selects (args := #[]) (mvT hZ (hw _ (List.mem_of_getElem? (i := 24) rfl)))) (mvT hZ (hw _ (List.mem_of_getElem? (i := 24) rfl))) (mvT hZ (hw _ (List.mem_of_getElem? (i := 23) rfl))) (by decide) (backOf (W := 0) (rmeqL l Z a0 hw [] b242 x266_R0 T266.heap n0 Z267 p266_0 (show b242 ≠ x266_R0 from (ne_exa c268 p266_0 (by decide)))) hZ (hw _ (List.mem_of_getElem? (i := 25) rfl)) (hw _ (List.mem_of_getElem? (i := 10) rfl)) (by decide) (by decide)) q269a q269c (g := (mkF m 135 #[.val (.long P0), .second, .val (.int P1), .val (.long P2), .second, .val (.int P3), .val (.int P4), .val (.long (tf1_0 P0)), .second, .val (.int (tf2_0 P1)), .val (.long (tf1_0 P0)), .second, .val (.int (tf2_0 P1)), .val (.ref b242), .val (.ref b248), .val (.int (((P4.toUInt32 >>> ((2 : Int32) &&& 31).toUInt32).toInt32) &&& (3 : Int32))), .val (.ref x266_R0)] [(.ref x266_R0), (.ref b242)])) rfl (by rw [hml]; rfl) (Steps.refl _) (argsL := [(.ref x266_R0)]) (rest := []) (lenOf pd_0_3 rfl) rfl (by show 2 * 0 + _ ≤ _; exact Nat.le_of_eq rfl) (hb hby at_135) (fun _ _ => ⟨rfl, rfl, (by decide : 3 + 0 ≤ _), (by decide : 5 + 0 ≤ _)⟩)
            dsimp only [Pt.U, Pt.locs, Pt.cells, Pt.slots] at X269 l269 y269 z269 st269 hQ269
            subst l269 y269 z269
            obtain ⟨rfl, N269q, K269⟩ := hQ269
            have N269 := Fr.app N266 N269q
            have pre270 : ∀ t, Steps p.tables e below (T269.setTop (mkF m 146 #[.val (.long P0), .second, .val (.int P1), .val (.long P2), .second, .val (.int P3), .val (.int P4), .val (.long (tf1_0 P0)), .second, .val (.int (tf2_0 P1)), .val (.long (tf1_0 P0)), .second, .val (.int (tf2_0 P1)), .val (.ref b242), .val (.ref b248), .val (.int (((P4.toUInt32 >>> ((2 : Int32) &&& 31).toUInt32).toInt32) &&& (3 : Int32))), .val (.ref x266_R0)] [(.int (1 : Int32))])) t → Steps p.tables e below (s₁.setTop (entryFrame m #[(.long P0), (.int P1), (.long P2), (.int P3), (.int P4)] maxLocals)) t := fun t kt => pre264 t (by
                show Steps p.tables e below (T254.setTop (mkF m 121 #[.val (.long P0), .second, .val (.int P1), .val (.long P2), .second, .val (.int P3), .val (.int P4), .val (.long (tf1_0 P0)), .second, .val (.int (tf2_0 P1)), .val (.long (tf1_0 P0)), .second, .val (.int (tf2_0 P1)), .val (.ref b242), .val (.ref b248), .val (.int (((P4.toUInt32 >>> ((2 : Int32) &&& 31).toUInt32).toInt32) &&& (3 : Int32))), .unset] [(.int (3 : Int32)), (.int (((P4.toUInt32 >>> ((2 : Int32) &&& 31).toUInt32).toInt32) &&& (3 : Int32)))])) _
                refine XS.icmpNo X254.here hx rfl (hb hby at_121) rfl (teq hc121).2 ?_
                show Steps p.tables e below (T254.setTop (mkF m 124 #[.val (.long P0), .second, .val (.int P1), .val (.long P2), .second, .val (.int P3), .val (.int P4), .val (.long (tf1_0 P0)), .second, .val (.int (tf2_0 P1)), .val (.long (tf1_0 P0)), .second, .val (.int (tf2_0 P1)), .val (.ref b242), .val (.ref b248), .val (.int (((P4.toUInt32 >>> ((2 : Int32) &&& 31).toUInt32).toInt32) &&& (3 : Int32))), .unset] [])) _
                refine XS.lload X254.here hx rfl (hb hby at_124) rfl ?_
                show Steps p.tables e below (T254.setTop (mkF m 126 #[.val (.long P0), .second, .val (.int P1), .val (.long P2), .second, .val (.int P3), .val (.int P4), .val (.long (tf1_0 P0)), .second, .val (.int (tf2_0 P1)), .val (.long (tf1_0 P0)), .second, .val (.int (tf2_0 P1)), .val (.ref b242), .val (.ref b248), .val (.int (((P4.toUInt32 >>> ((2 : Int32) &&& 31).toUInt32).toInt32) &&& (3 : Int32))), .unset] [(.long (tf1_0 P0))])) _
                refine st266 _ ?_
                show Steps p.tables e below (T266.setTop (mkF m 129 #[.val (.long P0), .second, .val (.int P1), .val (.long P2), .second, .val (.int P3), .val (.int P4), .val (.long (tf1_0 P0)), .second, .val (.int (tf2_0 P1)), .val (.long (tf1_0 P0)), .second, .val (.int (tf2_0 P1)), .val (.ref b242), .val (.ref b248), .val (.int (((P4.toUInt32 >>> ((2 : Int32) &&& 31).toUInt32).toInt32) &&& (3 : Int32))), .unset] [(.ref x266_R0)])) _
                refine XS.astore X266.here hx rfl (hb hby at_129) rfl rfl (l' := #[.val (.long P0), .second, .val (.int P1), .val (.long P2), .second, .val (.int P3), .val (.int P4), .val (.long (tf1_0 P0)), .second, .val (.int (tf2_0 P1)), .val (.long (tf1_0 P0)), .second, .val (.int (tf2_0 P1)), .val (.ref b242), .val (.ref b248), .val (.int (((P4.toUInt32 >>> ((2 : Int32) &&& 31).toUInt32).toInt32) &&& (3 : Int32))), .val (.ref x266_R0)]) rfl ?_
                show Steps p.tables e below (T266.setTop (mkF m 131 #[.val (.long P0), .second, .val (.int P1), .val (.long P2), .second, .val (.int P3), .val (.int P4), .val (.long (tf1_0 P0)), .second, .val (.int (tf2_0 P1)), .val (.long (tf1_0 P0)), .second, .val (.int (tf2_0 P1)), .val (.ref b242), .val (.ref b248), .val (.int (((P4.toUInt32 >>> ((2 : Int32) &&& 31).toUInt32).toInt32) &&& (3 : Int32))), .val (.ref x266_R0)] [])) _
                refine XS.aload X266.here hx rfl (hb hby at_131) rfl rfl ?_
                show Steps p.tables e below (T266.setTop (mkF m 133 #[.val (.long P0), .second, .val (.int P1), .val (.long P2), .second, .val (.int P3), .val (.int P4), .val (.long (tf1_0 P0)), .second, .val (.int (tf2_0 P1)), .val (.long (tf1_0 P0)), .second, .val (.int (tf2_0 P1)), .val (.ref b242), .val (.ref b248), .val (.int (((P4.toUInt32 >>> ((2 : Int32) &&& 31).toUInt32).toInt32) &&& (3 : Int32))), .val (.ref x266_R0)] [(.ref b242)])) _
                refine XS.aload X266.here hx rfl (hb hby at_133) rfl rfl ?_
                show Steps p.tables e below (T266.setTop (mkF m 135 #[.val (.long P0), .second, .val (.int P1), .val (.long P2), .second, .val (.int P3), .val (.int P4), .val (.long (tf1_0 P0)), .second, .val (.int (tf2_0 P1)), .val (.long (tf1_0 P0)), .second, .val (.int (tf2_0 P1)), .val (.ref b242), .val (.ref b248), .val (.int (((P4.toUInt32 >>> ((2 : Int32) &&& 31).toUInt32).toInt32) &&& (3 : Int32))), .val (.ref x266_R0)] [(.ref x266_R0), (.ref b242)])) _
                refine st269.trans ?_
                show Steps p.tables e below (T269.setTop (mkF m 138 #[.val (.long P0), .second, .val (.int P1), .val (.long P2), .second, .val (.int P3), .val (.int P4), .val (.long (tf1_0 P0)), .second, .val (.int (tf2_0 P1)), .val (.long (tf1_0 P0)), .second, .val (.int (tf2_0 P1)), .val (.ref b242), .val (.ref b248), .val (.int (((P4.toUInt32 >>> ((2 : Int32) &&& 31).toUInt32).toInt32) &&& (3 : Int32))), .val (.ref x266_R0)] [(.int (0 : Int32))])) _
                refine XS.ifNo X269.here hx rfl (hb hby at_138) rfl ((if0 _ _).trans (teq (show (0 : Int32) = (0 : Int32) from (by decide))).2) ?_
                show Steps p.tables e below (T269.setTop (mkF m 141 #[.val (.long P0), .second, .val (.int P1), .val (.long P2), .second, .val (.int P3), .val (.int P4), .val (.long (tf1_0 P0)), .second, .val (.int (tf2_0 P1)), .val (.long (tf1_0 P0)), .second, .val (.int (tf2_0 P1)), .val (.ref b242), .val (.ref b248), .val (.int (((P4.toUInt32 >>> ((2 : Int32) &&& 31).toUInt32).toInt32) &&& (3 : Int32))), .val (.ref x266_R0)] [])) _
                refine XS.iconst X269.here hx rfl (hb hby at_141) ?_
                show Steps p.tables e below (T269.setTop (mkF m 142 #[.val (.long P0), .second, .val (.int P1), .val (.long P2), .second, .val (.int P3), .val (.int P4), .val (.long (tf1_0 P0)), .second, .val (.int (tf2_0 P1)), .val (.long (tf1_0 P0)), .second, .val (.int (tf2_0 P1)), .val (.ref b242), .val (.ref b248), .val (.int (((P4.toUInt32 >>> ((2 : Int32) &&& 31).toUInt32).toInt32) &&& (3 : Int32))), .val (.ref x266_R0)] [(.int (1 : Int32))])) _
                refine XS.goto X269.here hx rfl (pc0 := 142) (pc' := 146) rfl (hb hby at_142) (by decide) (by decide) ?_
                exact kt)
            obtain ⟨fs, hr, hrun, hended, hW, hsame⟩ := X269.leave (v := some (.int (1 : Int32))) (fun h => by rw [Bd.returns] at h; cases h)
            refine ⟨_, _, pre270 _ ?_, hrun, hended, _, _, rfl, ?_, ⟨_, rfl⟩, hW, hsame.mono (by decide) (by decide)⟩
            · show Steps p.tables e below (T269.setTop (mkF m 146 #[.val (.long P0), .second, .val (.int P1), .val (.long P2), .second, .val (.int P3), .val (.int P4), .val (.long (tf1_0 P0)), .second, .val (.int (tf2_0 P1)), .val (.long (tf1_0 P0)), .second, .val (.int (tf2_0 P1)), .val (.ref b242), .val (.ref b248), .val (.int (((P4.toUInt32 >>> ((2 : Int32) &&& 31).toUInt32).toInt32) &&& (3 : Int32))), .val (.ref x266_R0)] [(.int (1 : Int32))])) _
              exact retN X269 hx (t := .boolean) Bd.returns (by simp) (hb hby at_146) hr
            · show Q0 Z P0 P1 P2 P3 P4 U0 h0 n0 _ T269.heap _
              rw [K269]
              exact ⟨rfl, N269⟩
          · have c271 : Fld Z T254.heap b242 "com/example/kept_reads/keptreads/wire/ReadGroup" "transaction" "J" (.long (tf1_0 P0)) := ((p246_1.ext E248).keep K254 (ninS ne251 nin0))
            have c272 : Fld Z T254.heap b242 "com/example/kept_reads/keptreads/wire/ReadGroup" "call" "I" (.int (tf2_0 P1)) := ((p246_2.ext E248).keep K254 (ninS ne251 nin0))
            have c274 : Exa Z T254.heap b242 "com/example/kept_reads/keptreads/wire/ReadGroup" := ((p246_0.ext E248).keep K254)
            obtain ⟨cq273, kq273, q273a, q273b, q273c⟩ := isOf hZ rfl c274
            obtain ⟨_, _, ⟨T273, L273, k273, n273⟩, -, X273, ⟨Lc273, hQ273, l273, y273, z273⟩, st273⟩ := X254.virtualBack hx (y := (⟨"com/example/kept_reads/keptreads/wire/ReadGroup", "equals", "(Ljava/lang/Object;)Z"⟩ : MethodName)) (z := (⟨"com/example/kept_reads/keptreads/wire/ReadGroup", "equals", "(Ljava/lang/Object;)Z"⟩ : MethodName)) hown (mvT hZ (hw _ (List.mem_of_getElem? (i := 21) rfl))) (mvT hZ (hw _ (List.mem_of_getElem? (i := 22) rfl))) (notFace_of_selects (args := #[]) (mvT hZ (hw _ (List.mem_of_getElem? (i := 24) rfl)))) (mvT hZ (hw _ (List.mem_of_getElem? (i := 24) rfl))) (mvT hZ (hw _ (List.mem_of_getElem? (i := 23) rfl))) (by decide) (backOf (W := 0) (rmeqR l Z a0 hw [] b242 b248 (tf1_0 P0) (tf2_0 P1) (tf1_0 P0) (tf2_0 P1) T254.heap n0 Z255 c271 c272 p254_1 p254_2 p254_0 (show b242 ≠ b248 from ne251)) hZ (hw _ (List.mem_of_getElem? (i := 25) rfl)) (hw _ (List.mem_of_getElem? (i := 10) rfl)) (by decide) (by decide)) q273a q273c (g := (mkF m 173 #[.val (.long P0), .second, .val (.int P1), .val (.long P2), .second, .val (.int P3), .val (.int P4), .val (.long (tf1_0 P0)), .second, .val (.int (tf2_0 P1)), .val (.long (tf1_0 P0)), .second, .val (.int (tf2_0 P1)), .val (.ref b242), .val (.ref b248), .val (.int (((P4.toUInt32 >>> ((2 : Int32) &&& 31).toUInt32).toInt32) &&& (3 : Int32))), .val (.int (1 : Int32))] [(.ref b248), (.ref b242)])) rfl (by rw [hml]; rfl) (Steps.refl _) (argsL := [(.ref b248)]) (rest := []) (lenOf pd_0_3 rfl) rfl (by show 2 * 0 + _ ≤ _; exact Nat.le_of_eq rfl) (hb hby at_173) (fun _ _ => ⟨rfl, rfl, (by decide : 2 + 0 ≤ _), (by decide : 4 + 0 ≤ _)⟩)
            dsimp only [Pt.U, Pt.locs, Pt.cells, Pt.slots] at X273 l273 y273 z273 st273 hQ273
            subst l273 y273 z273
            obtain ⟨rfl, N273q, K273⟩ := hQ273
            have N273 := Fr.app N254 N273q
            obtain ⟨cq275, kq275, q275a, q275b, q275c⟩ := isOf hZ K273 p254_0
            obtain ⟨_, _, ⟨T275, L275, k275, n275⟩, -, X275, ⟨Lc275, hQ275, l275, y275, z275⟩, st275⟩ := X273.virtualBack hx (y := (⟨"com/example/kept_reads/keptreads/wire/ReadGroup", "equals", "(Ljava/lang/Object;)Z"⟩ : MethodName)) (z := (⟨"com/example/kept_reads/keptreads/wire/ReadGroup", "equals", "(Ljava/lang/Object;)Z"⟩ : MethodName)) hown (mvT hZ (hw _ (List.mem_of_getElem? (i := 21) rfl))) (mvT hZ (hw _ (List.mem_of_getElem? (i := 22) rfl))) (notFace_of_selects (args := #[]) (mvT hZ (hw _ (List.mem_of_getElem? (i := 24) rfl)))) (mvT hZ (hw _ (List.mem_of_getElem? (i := 24) rfl))) (mvT hZ (hw _ (List.mem_of_getElem? (i := 23) rfl))) (by decide) (backOf (W := 0) (rmeqR l Z a0 hw [] b248 b242 (tf1_0 P0) (tf2_0 P1) (tf1_0 P0) (tf2_0 P1) T254.heap n0 Z255 p254_1 p254_2 c271 c272 c274 (show b248 ≠ b242 from (Ne.symm ne251))) hZ (hw _ (List.mem_of_getElem? (i := 25) rfl)) (hw _ (List.mem_of_getElem? (i := 10) rfl)) (by decide) (by decide)) q275a q275c (g := (mkF m 185 #[.val (.long P0), .second, .val (.int P1), .val (.long P2), .second, .val (.int P3), .val (.int P4), .val (.long (tf1_0 P0)), .second, .val (.int (tf2_0 P1)), .val (.long (tf1_0 P0)), .second, .val (.int (tf2_0 P1)), .val (.ref b242), .val (.ref b248), .val (.int (((P4.toUInt32 >>> ((2 : Int32) &&& 31).toUInt32).toInt32) &&& (3 : Int32))), .val (.int (1 : Int32))] [(.ref b242), (.ref b248)])) rfl (by rw [hml]; rfl) (Steps.refl _) (argsL := [(.ref b242)]) (rest := []) (lenOf pd_0_3 rfl) rfl (by show 2 * 0 + _ ≤ _; exact Nat.le_of_eq rfl) (hb hby at_185) (fun _ _ => ⟨rfl, K273, (by decide : 2 + 0 ≤ _), (by decide : 4 + 0 ≤ _)⟩)
            dsimp only [Pt.U, Pt.locs, Pt.cells, Pt.slots] at X275 l275 y275 z275 st275 hQ275
            subst l275 y275 z275
            obtain ⟨rfl, N275q, K275⟩ := hQ275
            have N275 := Fr.app N273 N275q
            have pre276 : ∀ t, Steps p.tables e below (T275.setTop (mkF m 198 #[.val (.long P0), .second, .val (.int P1), .val (.long P2), .second, .val (.int P3), .val (.int P4), .val (.long (tf1_0 P0)), .second, .val (.int (tf2_0 P1)), .val (.long (tf1_0 P0)), .second, .val (.int (tf2_0 P1)), .val (.ref b242), .val (.ref b248), .val (.int (((P4.toUInt32 >>> ((2 : Int32) &&& 31).toUInt32).toInt32) &&& (3 : Int32))), .val (.int (1 : Int32))] [(.int (1 : Int32))])) t → Steps p.tables e below (s₁.setTop (entryFrame m #[(.long P0), (.int P1), (.long P2), (.int P3), (.int P4)] maxLocals)) t := fun t kt => pre264 t (by
                show Steps p.tables e below (T254.setTop (mkF m 121 #[.val (.long P0), .second, .val (.int P1), .val (.long P2), .second, .val (.int P3), .val (.int P4), .val (.long (tf1_0 P0)), .second, .val (.int (tf2_0 P1)), .val (.long (tf1_0 P0)), .second, .val (.int (tf2_0 P1)), .val (.ref b242), .val (.ref b248), .val (.int (((P4.toUInt32 >>> ((2 : Int32) &&& 31).toUInt32).toInt32) &&& (3 : Int32))), .unset] [(.int (3 : Int32)), (.int (((P4.toUInt32 >>> ((2 : Int32) &&& 31).toUInt32).toInt32) &&& (3 : Int32)))])) _
                refine XS.icmpYes X254.here hx rfl (pc0 := 121) (pc' := 147) rfl (hb hby at_121) rfl (feq hc121).2 (by decide) (by decide) ?_
                show Steps p.tables e below (T254.setTop (mkF m 147 #[.val (.long P0), .second, .val (.int P1), .val (.long P2), .second, .val (.int P3), .val (.int P4), .val (.long (tf1_0 P0)), .second, .val (.int (tf2_0 P1)), .val (.long (tf1_0 P0)), .second, .val (.int (tf2_0 P1)), .val (.ref b242), .val (.ref b248), .val (.int (((P4.toUInt32 >>> ((2 : Int32) &&& 31).toUInt32).toInt32) &&& (3 : Int32))), .unset] [])) _
                refine XS.lload X254.here hx rfl (hb hby at_147) rfl ?_
                show Steps p.tables e below (T254.setTop (mkF m 149 #[.val (.long P0), .second, .val (.int P1), .val (.long P2), .second, .val (.int P3), .val (.int P4), .val (.long (tf1_0 P0)), .second, .val (.int (tf2_0 P1)), .val (.long (tf1_0 P0)), .second, .val (.int (tf2_0 P1)), .val (.ref b242), .val (.ref b248), .val (.int (((P4.toUInt32 >>> ((2 : Int32) &&& 31).toUInt32).toInt32) &&& (3 : Int32))), .unset] [(.long (tf1_0 P0))])) _
                refine XS.lload X254.here hx rfl (hb hby at_149) rfl ?_
                show Steps p.tables e below (T254.setTop (mkF m 151 #[.val (.long P0), .second, .val (.int P1), .val (.long P2), .second, .val (.int P3), .val (.int P4), .val (.long (tf1_0 P0)), .second, .val (.int (tf2_0 P1)), .val (.long (tf1_0 P0)), .second, .val (.int (tf2_0 P1)), .val (.ref b242), .val (.ref b248), .val (.int (((P4.toUInt32 >>> ((2 : Int32) &&& 31).toUInt32).toInt32) &&& (3 : Int32))), .unset] [(.long (tf1_0 P0)), (.long (tf1_0 P0))])) _
                refine XS.lcmp X254.here hx rfl (hb hby at_151) rfl ?_
                show Steps p.tables e below (T254.setTop (mkF m 152 #[.val (.long P0), .second, .val (.int P1), .val (.long P2), .second, .val (.int P3), .val (.int P4), .val (.long (tf1_0 P0)), .second, .val (.int (tf2_0 P1)), .val (.long (tf1_0 P0)), .second, .val (.int (tf2_0 P1)), .val (.ref b242), .val (.ref b248), .val (.int (((P4.toUInt32 >>> ((2 : Int32) &&& 31).toUInt32).toInt32) &&& (3 : Int32))), .unset] [(.int (lcmpW (tf1_0 P0) (tf1_0 P0)))])) _
                refine XS.ifNo X254.here hx rfl (hb hby at_152) rfl ((if0 _ _).trans (teq ((lw_eq (tf1_0 P0) (tf1_0 P0)).mpr (show (tf1_0 P0) = (tf1_0 P0) from rfl))).2) ?_
                show Steps p.tables e below (T254.setTop (mkF m 155 #[.val (.long P0), .second, .val (.int P1), .val (.long P2), .second, .val (.int P3), .val (.int P4), .val (.long (tf1_0 P0)), .second, .val (.int (tf2_0 P1)), .val (.long (tf1_0 P0)), .second, .val (.int (tf2_0 P1)), .val (.ref b242), .val (.ref b248), .val (.int (((P4.toUInt32 >>> ((2 : Int32) &&& 31).toUInt32).toInt32) &&& (3 : Int32))), .unset] [])) _
                refine XS.iload X254.here hx rfl (hb hby at_155) rfl ?_
                show Steps p.tables e below (T254.setTop (mkF m 157 #[.val (.long P0), .second, .val (.int P1), .val (.long P2), .second, .val (.int P3), .val (.int P4), .val (.long (tf1_0 P0)), .second, .val (.int (tf2_0 P1)), .val (.long (tf1_0 P0)), .second, .val (.int (tf2_0 P1)), .val (.ref b242), .val (.ref b248), .val (.int (((P4.toUInt32 >>> ((2 : Int32) &&& 31).toUInt32).toInt32) &&& (3 : Int32))), .unset] [(.int (tf2_0 P1))])) _
                refine XS.iload X254.here hx rfl (hb hby at_157) rfl ?_
                show Steps p.tables e below (T254.setTop (mkF m 159 #[.val (.long P0), .second, .val (.int P1), .val (.long P2), .second, .val (.int P3), .val (.int P4), .val (.long (tf1_0 P0)), .second, .val (.int (tf2_0 P1)), .val (.long (tf1_0 P0)), .second, .val (.int (tf2_0 P1)), .val (.ref b242), .val (.ref b248), .val (.int (((P4.toUInt32 >>> ((2 : Int32) &&& 31).toUInt32).toInt32) &&& (3 : Int32))), .unset] [(.int (tf2_0 P1)), (.int (tf2_0 P1))])) _
                refine XS.icmpNo X254.here hx rfl (hb hby at_159) rfl (teq (show (tf2_0 P1) = (tf2_0 P1) from rfl)).2 ?_
                show Steps p.tables e below (T254.setTop (mkF m 162 #[.val (.long P0), .second, .val (.int P1), .val (.long P2), .second, .val (.int P3), .val (.int P4), .val (.long (tf1_0 P0)), .second, .val (.int (tf2_0 P1)), .val (.long (tf1_0 P0)), .second, .val (.int (tf2_0 P1)), .val (.ref b242), .val (.ref b248), .val (.int (((P4.toUInt32 >>> ((2 : Int32) &&& 31).toUInt32).toInt32) &&& (3 : Int32))), .unset] [])) _
                refine XS.iconst X254.here hx rfl (hb hby at_162) ?_
                show Steps p.tables e below (T254.setTop (mkF m 163 #[.val (.long P0), .second, .val (.int P1), .val (.long P2), .second, .val (.int P3), .val (.int P4), .val (.long (tf1_0 P0)), .second, .val (.int (tf2_0 P1)), .val (.long (tf1_0 P0)), .second, .val (.int (tf2_0 P1)), .val (.ref b242), .val (.ref b248), .val (.int (((P4.toUInt32 >>> ((2 : Int32) &&& 31).toUInt32).toInt32) &&& (3 : Int32))), .unset] [(.int (1 : Int32))])) _
                refine XS.goto X254.here hx rfl (pc0 := 163) (pc' := 167) rfl (hb hby at_163) (by decide) (by decide) ?_
                show Steps p.tables e below (T254.setTop (mkF m 167 #[.val (.long P0), .second, .val (.int P1), .val (.long P2), .second, .val (.int P3), .val (.int P4), .val (.long (tf1_0 P0)), .second, .val (.int (tf2_0 P1)), .val (.long (tf1_0 P0)), .second, .val (.int (tf2_0 P1)), .val (.ref b242), .val (.ref b248), .val (.int (((P4.toUInt32 >>> ((2 : Int32) &&& 31).toUInt32).toInt32) &&& (3 : Int32))), .unset] [(.int (1 : Int32))])) _
                refine XS.istore X254.here hx rfl (hb hby at_167) rfl (l' := #[.val (.long P0), .second, .val (.int P1), .val (.long P2), .second, .val (.int P3), .val (.int P4), .val (.long (tf1_0 P0)), .second, .val (.int (tf2_0 P1)), .val (.long (tf1_0 P0)), .second, .val (.int (tf2_0 P1)), .val (.ref b242), .val (.ref b248), .val (.int (((P4.toUInt32 >>> ((2 : Int32) &&& 31).toUInt32).toInt32) &&& (3 : Int32))), .val (.int (1 : Int32))]) rfl ?_
                show Steps p.tables e below (T254.setTop (mkF m 169 #[.val (.long P0), .second, .val (.int P1), .val (.long P2), .second, .val (.int P3), .val (.int P4), .val (.long (tf1_0 P0)), .second, .val (.int (tf2_0 P1)), .val (.long (tf1_0 P0)), .second, .val (.int (tf2_0 P1)), .val (.ref b242), .val (.ref b248), .val (.int (((P4.toUInt32 >>> ((2 : Int32) &&& 31).toUInt32).toInt32) &&& (3 : Int32))), .val (.int (1 : Int32))] [])) _
                refine XS.aload X254.here hx rfl (hb hby at_169) rfl rfl ?_
                show Steps p.tables e below (T254.setTop (mkF m 171 #[.val (.long P0), .second, .val (.int P1), .val (.long P2), .second, .val (.int P3), .val (.int P4), .val (.long (tf1_0 P0)), .second, .val (.int (tf2_0 P1)), .val (.long (tf1_0 P0)), .second, .val (.int (tf2_0 P1)), .val (.ref b242), .val (.ref b248), .val (.int (((P4.toUInt32 >>> ((2 : Int32) &&& 31).toUInt32).toInt32) &&& (3 : Int32))), .val (.int (1 : Int32))] [(.ref b242)])) _
                refine XS.aload X254.here hx rfl (hb hby at_171) rfl rfl ?_
                show Steps p.tables e below (T254.setTop (mkF m 173 #[.val (.long P0), .second, .val (.int P1), .val (.long P2), .second, .val (.int P3), .val (.int P4), .val (.long (tf1_0 P0)), .second, .val (.int (tf2_0 P1)), .val (.long (tf1_0 P0)), .second, .val (.int (tf2_0 P1)), .val (.ref b242), .val (.ref b248), .val (.int (((P4.toUInt32 >>> ((2 : Int32) &&& 31).toUInt32).toInt32) &&& (3 : Int32))), .val (.int (1 : Int32))] [(.ref b248), (.ref b242)])) _
                refine st273.trans ?_
                show Steps p.tables e below (T273.setTop (mkF m 176 #[.val (.long P0), .second, .val (.int P1), .val (.long P2), .second, .val (.int P3), .val (.int P4), .val (.long (tf1_0 P0)), .second, .val (.int (tf2_0 P1)), .val (.long (tf1_0 P0)), .second, .val (.int (tf2_0 P1)), .val (.ref b242), .val (.ref b248), .val (.int (((P4.toUInt32 >>> ((2 : Int32) &&& 31).toUInt32).toInt32) &&& (3 : Int32))), .val (.int (1 : Int32))] [(.int (own_eq (tf1_0 P0) (tf1_0 P0) (tf2_0 P1) (tf2_0 P1)))])) _
                refine XS.iload X273.here hx rfl (hb hby at_176) rfl ?_
                show Steps p.tables e below (T273.setTop (mkF m 178 #[.val (.long P0), .second, .val (.int P1), .val (.long P2), .second, .val (.int P3), .val (.int P4), .val (.long (tf1_0 P0)), .second, .val (.int (tf2_0 P1)), .val (.long (tf1_0 P0)), .second, .val (.int (tf2_0 P1)), .val (.ref b242), .val (.ref b248), .val (.int (((P4.toUInt32 >>> ((2 : Int32) &&& 31).toUInt32).toInt32) &&& (3 : Int32))), .val (.int (1 : Int32))] [(.int (1 : Int32)), (.int (own_eq (tf1_0 P0) (tf1_0 P0) (tf2_0 P1) (tf2_0 P1)))])) _
                refine XS.icmpNo X273.here hx rfl (hb hby at_178) rfl (teq (show (own_eq (tf1_0 P0) (tf1_0 P0) (tf2_0 P1) (tf2_0 P1)) = (1 : Int32) from (by unfold own_eq; rw [if_pos rfl, if_pos rfl]))).2 ?_
                show Steps p.tables e below (T273.setTop (mkF m 181 #[.val (.long P0), .second, .val (.int P1), .val (.long P2), .second, .val (.int P3), .val (.int P4), .val (.long (tf1_0 P0)), .second, .val (.int (tf2_0 P1)), .val (.long (tf1_0 P0)), .second, .val (.int (tf2_0 P1)), .val (.ref b242), .val (.ref b248), .val (.int (((P4.toUInt32 >>> ((2 : Int32) &&& 31).toUInt32).toInt32) &&& (3 : Int32))), .val (.int (1 : Int32))] [])) _
                refine XS.aload X273.here hx rfl (hb hby at_181) rfl rfl ?_
                show Steps p.tables e below (T273.setTop (mkF m 183 #[.val (.long P0), .second, .val (.int P1), .val (.long P2), .second, .val (.int P3), .val (.int P4), .val (.long (tf1_0 P0)), .second, .val (.int (tf2_0 P1)), .val (.long (tf1_0 P0)), .second, .val (.int (tf2_0 P1)), .val (.ref b242), .val (.ref b248), .val (.int (((P4.toUInt32 >>> ((2 : Int32) &&& 31).toUInt32).toInt32) &&& (3 : Int32))), .val (.int (1 : Int32))] [(.ref b248)])) _
                refine XS.aload X273.here hx rfl (hb hby at_183) rfl rfl ?_
                show Steps p.tables e below (T273.setTop (mkF m 185 #[.val (.long P0), .second, .val (.int P1), .val (.long P2), .second, .val (.int P3), .val (.int P4), .val (.long (tf1_0 P0)), .second, .val (.int (tf2_0 P1)), .val (.long (tf1_0 P0)), .second, .val (.int (tf2_0 P1)), .val (.ref b242), .val (.ref b248), .val (.int (((P4.toUInt32 >>> ((2 : Int32) &&& 31).toUInt32).toInt32) &&& (3 : Int32))), .val (.int (1 : Int32))] [(.ref b242), (.ref b248)])) _
                refine st275.trans ?_
                show Steps p.tables e below (T275.setTop (mkF m 188 #[.val (.long P0), .second, .val (.int P1), .val (.long P2), .second, .val (.int P3), .val (.int P4), .val (.long (tf1_0 P0)), .second, .val (.int (tf2_0 P1)), .val (.long (tf1_0 P0)), .second, .val (.int (tf2_0 P1)), .val (.ref b242), .val (.ref b248), .val (.int (((P4.toUInt32 >>> ((2 : Int32) &&& 31).toUInt32).toInt32) &&& (3 : Int32))), .val (.int (1 : Int32))] [(.int (own_eq (tf1_0 P0) (tf1_0 P0) (tf2_0 P1) (tf2_0 P1)))])) _
                refine XS.iload X275.here hx rfl (hb hby at_188) rfl ?_
                show Steps p.tables e below (T275.setTop (mkF m 190 #[.val (.long P0), .second, .val (.int P1), .val (.long P2), .second, .val (.int P3), .val (.int P4), .val (.long (tf1_0 P0)), .second, .val (.int (tf2_0 P1)), .val (.long (tf1_0 P0)), .second, .val (.int (tf2_0 P1)), .val (.ref b242), .val (.ref b248), .val (.int (((P4.toUInt32 >>> ((2 : Int32) &&& 31).toUInt32).toInt32) &&& (3 : Int32))), .val (.int (1 : Int32))] [(.int (1 : Int32)), (.int (own_eq (tf1_0 P0) (tf1_0 P0) (tf2_0 P1) (tf2_0 P1)))])) _
                refine XS.icmpNo X275.here hx rfl (hb hby at_190) rfl (teq (show (own_eq (tf1_0 P0) (tf1_0 P0) (tf2_0 P1) (tf2_0 P1)) = (1 : Int32) from (by unfold own_eq; rw [if_pos rfl, if_pos rfl]))).2 ?_
                show Steps p.tables e below (T275.setTop (mkF m 193 #[.val (.long P0), .second, .val (.int P1), .val (.long P2), .second, .val (.int P3), .val (.int P4), .val (.long (tf1_0 P0)), .second, .val (.int (tf2_0 P1)), .val (.long (tf1_0 P0)), .second, .val (.int (tf2_0 P1)), .val (.ref b242), .val (.ref b248), .val (.int (((P4.toUInt32 >>> ((2 : Int32) &&& 31).toUInt32).toInt32) &&& (3 : Int32))), .val (.int (1 : Int32))] [])) _
                refine XS.iconst X275.here hx rfl (hb hby at_193) ?_
                show Steps p.tables e below (T275.setTop (mkF m 194 #[.val (.long P0), .second, .val (.int P1), .val (.long P2), .second, .val (.int P3), .val (.int P4), .val (.long (tf1_0 P0)), .second, .val (.int (tf2_0 P1)), .val (.long (tf1_0 P0)), .second, .val (.int (tf2_0 P1)), .val (.ref b242), .val (.ref b248), .val (.int (((P4.toUInt32 >>> ((2 : Int32) &&& 31).toUInt32).toInt32) &&& (3 : Int32))), .val (.int (1 : Int32))] [(.int (1 : Int32))])) _
                refine XS.goto X275.here hx rfl (pc0 := 194) (pc' := 198) rfl (hb hby at_194) (by decide) (by decide) ?_
                exact kt)
            obtain ⟨fs, hr, hrun, hended, hW, hsame⟩ := X275.leave (v := some (.int (1 : Int32))) (fun h => by rw [Bd.returns] at h; cases h)
            refine ⟨_, _, pre276 _ ?_, hrun, hended, _, _, rfl, ?_, ⟨_, rfl⟩, hW, hsame.mono (by decide) (by decide)⟩
            · show Steps p.tables e below (T275.setTop (mkF m 198 #[.val (.long P0), .second, .val (.int P1), .val (.long P2), .second, .val (.int P3), .val (.int P4), .val (.long (tf1_0 P0)), .second, .val (.int (tf2_0 P1)), .val (.long (tf1_0 P0)), .second, .val (.int (tf2_0 P1)), .val (.ref b242), .val (.ref b248), .val (.int (((P4.toUInt32 >>> ((2 : Int32) &&& 31).toUInt32).toInt32) &&& (3 : Int32))), .val (.int (1 : Int32))] [(.int (1 : Int32))])) _
              exact retN X275 hx (t := .boolean) Bd.returns (by simp) (hb hby at_198) hr
            · show Q0 Z P0 P1 P2 P3 P4 U0 h0 n0 _ T275.heap _
              rw [K275]
              exact ⟨rfl, N275⟩
set_option maxRecDepth 65536 in
set_option maxHeartbeats 40000000 in
theorem comes_1 {Post : Tables → Env → Array Value → State → Outcome → State → Prop} (hpost : ∀ tb e args s v u, (limb_1_1.after args s (.returned v) u = true ∧ limb_1_2.after args s (.returned v) u = true ∧ True) → FrameEnd s (.returned v) u (Jvm.fieldLocs frame_1_writes args s ++ Jvm.arrayLocs frame_1_arrays args s ++ Jvm.staticLocs frame_1_statics s) 16 128 → Post tb e args s (.returned v) u) :
    ArmFor flags0 classFile x code maxLocals ret World_1 tables_1 room_1 Calls_1 rest_1 Pre_1 Post := by
  intro l hfl _ _ p e ha hc hk s m args below hf hA hF happ hP
  obtain ⟨hcalls, hrest, hpre⟩ := hP
  obtain ⟨-, -, -, hnamed, -, -, -, hat⟩ := (Spec.applies_iff hf).mp happ
  obtain ⟨hg, hn⟩ := and_e (Cond.before_iff.mp (show (Jvm.Cond.and given_1 narrow_1).before args s = true from hpre))
  obtain ⟨gv1, gv2⟩ := and_e hg
  obtain ⟨gv3, gv4⟩ := and_e gv2
  obtain ⟨gv5, gv6⟩ := and_e gv4
  obtain ⟨gv7, gv8⟩ := and_e gv6
  obtain ⟨gv9, gv10⟩ := and_e gv8
  obtain ⟨w0, w1, w2, w3, w4, rfl⟩ : ∃ w0 w1 w2 w3 w4 : Value, args = #[w0, w1, w2, w3, w4] := by
    have hs : args.size = 5 := by simpa [Cond.value, given_1] using gv1
    obtain ⟨L⟩ := args
    match L, hs with
    | [w0, w1, w2, w3, w4], _ => exact ⟨w0, w1, w2, w3, w4, rfl⟩
  have hw := fun d (hd : d ∈ tables_1) => atoms_spec (ws := Jvm.Cond.code x code maxLocals ret :: tables_1) hat d (List.mem_cons_of_mem _ hd)
  have hfit : Fit s := fun {y c} hc i hi => by
    obtain ⟨ha, rfl⟩ := Array.getElem?_eq_some_iff.mp hc
    have q := List.all_eq_true.mp ((Array.all_eq_true_iff_forall_mem.mp hF) _ (Array.getElem_mem ha)) i (List.mem_range.mpr hi)
    simpa [Array.getElem?_eq_getElem hi] using q
  obtain ⟨hsets, hown0⟩ := atoms_of _ (rest_1_c_eq ▸ (show rest_1_c.before _ s = true from hrest))
  have hr0 := Cond.before_iff.mp hown0
  obtain ⟨i0, ei0⟩ := isL_v gv3
  obtain rfl : w0 = (.long i0) := Option.some.inj ei0
  obtain ⟨i1, ei1⟩ := is_v gv5
  obtain rfl : w1 = (.int i1) := Option.some.inj ei1
  obtain ⟨i2, ei2⟩ := isL_v gv7
  obtain rfl : w2 = (.long i2) := Option.some.inj ei2
  obtain ⟨i3, ei3⟩ := is_v gv9
  obtain rfl : w3 = (.int i3) := Option.some.inj ei3
  obtain ⟨i4, ei4⟩ := is_v gv10
  obtain rfl : w4 = (.int i4) := Option.some.inj ei4
  obtain ⟨u0, ev0⟩ := arr_v (Cond.before_iff.mp (hsets _ (List.mem_of_getElem? (i := 2) rfl)))
  obtain ⟨n, o, h1, h2, h3, _, L, rfl, ⟨rfl, N⟩, hq⟩ := rm0 l s _ hw tables_1 i0 i1 i2 i3 i4 u0 s.heap s.heap.size (Nat.le_refl _) (Sta.start ev0 (Or.inl (hsets _ (List.mem_of_getElem? (i := 1) rfl)))) (own_Cac.start ev0 (hsets _ (List.mem_of_getElem? (i := 2) rfl)) (hsets _ (List.mem_of_getElem? (i := 4) rfl)) (hsets _ (List.mem_of_getElem? (i := 5) rfl))) p e ha hc hk s m _ below hf ((Spec.applies_iff_loose hf).mp happ).1 ⟨rfl, State.Warmed39.refl s, rfl⟩ trivial
  refine ⟨n, _, h1, h2, h3, hpost _ _ _ _ _ _ ⟨Cond.after_iff.mpr rfl, Cond.after_iff.mpr (eq_i res_at (Term.int_eval (1)) rfl), trivial⟩ ⟨hq.1, hq.2.1, (hq.2.2.sift fun y hy => Or.inr (N y hy)).mono (by decide) (by decide)⟩⟩
theorem main_1_1 : Claimed_1_1 := comes_1 fun _ _ _ _ _ _ h hF => ⟨h.1, hF⟩
theorem main_1_2 : Claimed_1_2 := comes_1 fun _ _ _ _ _ _ h hF => ⟨h.2.1, hF⟩
end Jvm.Pilot.@@N@@
namespace Jvm.Pilot.@@N@@
open Jvm Jvm.ClassFile Sem Op Lib Jvm.Free Jvm.Stand Jvm.Pilot.@@N@@.Jvm.D
/-! MADE BY PROGRAM (witnessworld.py) out of the Statement's table words and the real class files: 16 classes; the members and pool entries that the words name. The judged class is class 1, her method 3. -/
namespace start1
open Jvm.ClassFile
def u (s : String) : CpInfo := .utf8 (stringToUtf16 s)
/-- a pool by its gaps: so many unusable entries, then the entry; so many at the end -/
def gap : Nat → List CpInfo → List CpInfo
  | 0, r => r
  | n + 1, r => .unusable :: gap n r
def poolList (es : List (Nat × CpInfo)) (last : Nat) : List CpInfo := es.foldr (fun e r => gap e.1 (e.2 :: r)) (gap last [])
def pool (es : List (Nat × CpInfo)) (last : Nat) : Array CpInfo := ⟨poolList es last⟩
def fileOf (pool : Array CpInfo) (this : Nat) (attrs : Array Attribute := #[]) (ms : Array MethodInfo := #[]) (fl : Nat := 33) (sup : Nat := 0) (ifs : Array Nat := #[]) (fds : Array FieldInfo := #[]) : ClassFile where
  minorVersion := 0
  majorVersion := 65
  constantPool := pool
  accessFlags := fl
  thisClass := this
  superClass := sup
  interfaces := ifs
  fields := fds
  methods := ms
  attributes := attrs
def plain (name : String) (sup : Option ClassId) : Class where
  name := name
  kind := .ordinary
  loader := none
  accessFlags := 33
  super := sup
  interfaces := #[]
  cf := none
  fields := #[]
  methods := #[]
  instanceTypes := #[]
  staticTypes := #[]
  resolved := #[]
  callSites := []
  init := .initialized
  statics := none
  mirror := none

def pool0 : Array CpInfo := pool [(5, u "<init>"), (0, u "()V"), (1, .class_ 10), (1, u "java/lang/Object")] 113

def k0c0 : Code := { maxStack := 0, maxLocals := 1, code := object_method_1_code, exceptionTable := #[], attributes := #[] }
def k0m0 : Method := { name := "<init>", desc := "()V", sig := { parameters := [], returnType := none }, accessFlags := 1, code := some k0c0 }
/-- java/lang/Object -/
def k0 : Class := { plain "java/lang/Object" none with
  accessFlags := 33
  interfaces := #[]
  cf := some (fileOf pool0 8 #[] #[{ accessFlags := 1, nameIndex := 5, descriptorIndex := 6, attributes := #[] }] 33 0 #[] #[])
  fields := #[]
  methods := #[k0m0]
  instanceTypes := #[]
  staticTypes := #[]
  resolved := Array.replicate 124 none
  statics := none }

def pool1 : Array CpInfo := pool [(2, .class_ 4), (1, u "java/lang/Object"), (0, u "<init>"), (0, u "()V"), (0, .class_ 8), (0, u "java/lang/Long"), (0, .long 9223372036854775807), (3, .integer 2147483647), (0, .methodref 15 16), (0, .class_ 17), (0, .nameAndType 18 19), (0, u "com/example/kept_reads/keptreads/wire/ReadGroupEqualsPinLaw"), (0, u "posL"), (0, u "(J)J"), (0, .methodref 15 21), (0, .nameAndType 22 23), (0, u "posI"), (0, u "(I)I"), (0, .class_ 25), (0, u "com/example/kept_reads/keptreads/wire/ReadGroup"), (0, .methodref 24 27), (0, .nameAndType 5 28), (0, u "(JI)V"), (0, .methodref 24 30), (0, .nameAndType 31 32), (0, u "equals"), (0, u "(Ljava/lang/Object;)Z"), (0, .methodref 7 34), (0, .nameAndType 35 36), (0, u "valueOf"), (0, u "(J)Ljava/lang/Long;"), (3, u "law"), (0, u "(JIJII)Z")] 2

def k1m0 : Method := { name := "<init>", desc := "()V", sig := { parameters := [], returnType := none }, accessFlags := 1, code := none }
def k1c1 : Code := { maxStack := 4, maxLocals := 4, code := method_2_code, exceptionTable := #[], attributes := #[] }
def k1m1 : Method := { name := "posL", desc := "(J)J", sig := { parameters := [.long], returnType := some .long }, accessFlags := 10, code := some k1c1 }
def k1c2 : Code := { maxStack := 2, maxLocals := 2, code := method_3_code, exceptionTable := #[], attributes := #[] }
def k1m2 : Method := { name := "posI", desc := "(I)I", sig := { parameters := [.int], returnType := some .int }, accessFlags := 10, code := some k1c2 }
def k1c3 : Code := { maxStack := 5, maxLocals := 17, code := code, exceptionTable := #[], attributes := #[] }
def k1m3 : Method := { name := "law", desc := "(JIJII)Z", sig := { parameters := [.long, .int, .long, .int, .int], returnType := some .boolean }, accessFlags := 9, code := some k1c3 }
/-- com/example/kept_reads/keptreads/wire/ReadGroupEqualsPinLaw -/
def k1 : Class := { plain "com/example/kept_reads/keptreads/wire/ReadGroupEqualsPinLaw" (some 0) with
  accessFlags := 49
  interfaces := #[]
  cf := some (fileOf pool1 15 #[] #[{ accessFlags := 1, nameIndex := 5, descriptorIndex := 6, attributes := #[] }, { accessFlags := 10, nameIndex := 18, descriptorIndex := 19, attributes := #[] }, { accessFlags := 10, nameIndex := 22, descriptorIndex := 23, attributes := #[] }, { accessFlags := 9, nameIndex := 40, descriptorIndex := 41, attributes := #[] }] 49 2 #[] #[])
  fields := #[]
  methods := #[k1m0, k1m1, k1m2, k1m3]
  instanceTypes := #[]
  staticTypes := #[]
  resolved := Array.replicate 44 none
  statics := none }

def pool2 : Array CpInfo := pool [(1, .methodref 2 3), (0, .class_ 4), (0, .nameAndType 5 6), (0, u "java/lang/Object"), (0, u "<init>"), (0, u "()V"), (9, .fieldref 17 18), (0, .class_ 19), (0, .nameAndType 20 21), (0, u "com/example/kept_reads/keptreads/wire/ReadGroup"), (0, u "transaction"), (0, u "J"), (0, .fieldref 17 23), (0, .nameAndType 24 25), (0, u "call"), (0, u "I"), (7, u "(JI)V"), (5, u "equals"), (0, u "(Ljava/lang/Object;)Z")] 21

def k2c0 : Code := { maxStack := 5, maxLocals := 4, code := prog_43_method_1_code, exceptionTable := #[], attributes := #[] }
def k2m0 : Method := { name := "<init>", desc := "(JI)V", sig := { parameters := [.long, .int], returnType := none }, accessFlags := 1, code := some k2c0 }
def k2c1 : Code := { maxStack := 4, maxLocals := 3, code := prog_43_method_4_code, exceptionTable := #[], attributes := #[] }
def k2m1 : Method := { name := "equals", desc := "(Ljava/lang/Object;)Z", sig := { parameters := [(.object "java/lang/Object")], returnType := some .boolean }, accessFlags := 1, code := some k2c1 }
/-- com/example/kept_reads/keptreads/wire/ReadGroup -/
def k2 : Class := { plain "com/example/kept_reads/keptreads/wire/ReadGroup" (some 0) with
  accessFlags := 49
  interfaces := #[]
  cf := some (fileOf pool2 17 #[] #[{ accessFlags := 1, nameIndex := 5, descriptorIndex := 33, attributes := #[] }, { accessFlags := 1, nameIndex := 39, descriptorIndex := 40, attributes := #[] }] 49 2 #[] #[{ accessFlags := 18, nameIndex := 20, descriptorIndex := 21, attributes := #[] }, { accessFlags := 18, nameIndex := 24, descriptorIndex := 25, attributes := #[] }])
  fields := #[{ name := "transaction", type := .long, accessFlags := 18, slot := 0, constantValue := 0 }, { name := "call", type := .int, accessFlags := 18, slot := 1, constantValue := 0 }]
  methods := #[k2m0, k2m1]
  instanceTypes := #[.long, .int]
  staticTypes := #[]
  resolved := Array.replicate 62 none
  statics := none }

def pool3 : Array CpInfo := pool [(1, .class_ 2), (0, u "java/io/Serializable"), (0, .class_ 4), (0, u "java/lang/Object")] 2

/-- java/io/Serializable -/
def k3 : Class := { plain "java/io/Serializable" (some 0) with
  accessFlags := 1537
  interfaces := #[]
  cf := some (fileOf pool3 1 #[] #[] 1537 3 #[] #[])
  fields := #[]
  methods := #[]
  instanceTypes := #[]
  staticTypes := #[]
  resolved := Array.replicate 7 none
  statics := none }

def pool4 : Array CpInfo := pool [(1, .methodref 2 3), (0, .class_ 4), (0, .nameAndType 5 6), (0, u "java/lang/Object"), (0, u "<init>"), (0, u "()V"), (1, .class_ 10), (1, u "java/lang/Number"), (2, .class_ 14), (0, u "java/io/Serializable"), (0, u "serialVersionUID"), (0, u "J")] 20

def k4c0 : Code := { maxStack := 1, maxLocals := 1, code := jdk_18_method_1_code, exceptionTable := #[], attributes := #[] }
def k4m0 : Method := { name := "<init>", desc := "()V", sig := { parameters := [], returnType := none }, accessFlags := 1, code := some k4c0 }
/-- java/lang/Number -/
def k4 : Class := { plain "java/lang/Number" (some 0) with
  accessFlags := 1057
  interfaces := #[3]
  cf := some (fileOf pool4 8 #[] #[{ accessFlags := 1, nameIndex := 5, descriptorIndex := 6, attributes := #[] }] 1057 2 #[13] #[{ accessFlags := 26, nameIndex := 15, descriptorIndex := 16, attributes := #[] }])
  fields := #[{ name := "serialVersionUID", type := .long, accessFlags := 26, slot := 0, constantValue := 0 }]
  methods := #[k4m0]
  instanceTypes := #[]
  staticTypes := #[.long]
  resolved := Array.replicate 37 none
  statics := none }

def pool5 : Array CpInfo := pool [(1, .class_ 2), (0, u "java/lang/Comparable"), (0, .class_ 4), (0, u "java/lang/Object")] 7

/-- java/lang/Comparable -/
def k5 : Class := { plain "java/lang/Comparable" (some 0) with
  accessFlags := 1537
  interfaces := #[]
  cf := some (fileOf pool5 1 #[] #[] 1537 3 #[] #[])
  fields := #[]
  methods := #[]
  instanceTypes := #[]
  staticTypes := #[]
  resolved := Array.replicate 12 none
  statics := none }

def pool6 : Array CpInfo := pool [(1, .class_ 2), (0, u "java/lang/constant/Constable"), (0, .class_ 4), (0, u "java/lang/Object")] 6

/-- java/lang/constant/Constable -/
def k6 : Class := { plain "java/lang/constant/Constable" (some 0) with
  accessFlags := 1537
  interfaces := #[]
  cf := some (fileOf pool6 1 #[] #[] 1537 3 #[] #[])
  fields := #[]
  methods := #[]
  instanceTypes := #[]
  staticTypes := #[]
  resolved := Array.replicate 11 none
  statics := none }

def pool7 : Array CpInfo := pool [(1, .class_ 2), (0, u "java/lang/constant/ConstantDesc"), (0, .class_ 4), (0, u "java/lang/Object")] 32

/-- java/lang/constant/ConstantDesc -/
def k7 : Class := { plain "java/lang/constant/ConstantDesc" (some 0) with
  accessFlags := 1537
  interfaces := #[]
  cf := some (fileOf pool7 1 #[] #[] 1537 3 #[] #[])
  fields := #[]
  methods := #[]
  instanceTypes := #[]
  staticTypes := #[]
  resolved := Array.replicate 37 none
  statics := none }

def pool8 : Array CpInfo := pool [(1, .class_ 2), (0, u "java/lang/Long"), (55, .nameAndType 59 60), (0, u "<init>"), (0, u "()V"), (24, u "valueOf"), (143, u "(J)Ljava/lang/Long;"), (0, .long 18446744073709551488), (1, .long 127), (1, .fieldref 235 236), (0, .class_ 237), (0, .nameAndType 238 239), (0, u "java/lang/Long$LongCache"), (0, u "cache"), (0, u "[Ljava/lang/Long;"), (0, .methodref 1 241), (0, .nameAndType 59 242), (0, u "(J)V"), (27, .methodref 271 58), (0, .class_ 272), (0, u "java/lang/Number"), (0, .fieldref 1 274), (0, .nameAndType 275 276), (0, u "value"), (0, u "J"), (84, u "TYPE"), (0, u "Ljava/lang/Class;"), (0, .class_ 364), (0, u "java/lang/Comparable"), (0, .class_ 366), (0, u "java/lang/constant/Constable"), (0, .class_ 368), (0, u "java/lang/constant/ConstantDesc"), (0, u "MIN_VALUE"), (1, u "MAX_VALUE"), (4, u "SIZE"), (0, u "I"), (1, u "BYTES"), (1, u "serialVersionUID")] 142

def k8c0 : Code := { maxStack := 4, maxLocals := 3, code := jdk_35_method_24_code, exceptionTable := #[], attributes := #[] }
def k8m0 : Method := { name := "valueOf", desc := "(J)Ljava/lang/Long;", sig := { parameters := [.long], returnType := some (.object "java/lang/Long") }, accessFlags := 9, code := some k8c0 }
def k8c1 : Code := { maxStack := 3, maxLocals := 3, code := jdk_35_method_26_code, exceptionTable := #[], attributes := #[] }
def k8m1 : Method := { name := "<init>", desc := "(J)V", sig := { parameters := [.long], returnType := none }, accessFlags := 1, code := some k8c1 }
/-- java/lang/Long -/
def k8 : Class := { plain "java/lang/Long" (some 4) with
  accessFlags := 49
  interfaces := #[5, 6, 7]
  cf := some (fileOf pool8 1 #[.nestMembers #[235]] #[{ accessFlags := 9, nameIndex := 85, descriptorIndex := 229, attributes := #[] }, { accessFlags := 1, nameIndex := 59, descriptorIndex := 242, attributes := #[] }] 49 271 #[363, 365, 367] #[{ accessFlags := 25, nameIndex := 369, descriptorIndex := 276, attributes := #[] }, { accessFlags := 25, nameIndex := 371, descriptorIndex := 276, attributes := #[] }, { accessFlags := 25, nameIndex := 361, descriptorIndex := 362, attributes := #[] }, { accessFlags := 18, nameIndex := 275, descriptorIndex := 276, attributes := #[] }, { accessFlags := 25, nameIndex := 376, descriptorIndex := 377, attributes := #[] }, { accessFlags := 25, nameIndex := 379, descriptorIndex := 377, attributes := #[] }, { accessFlags := 26, nameIndex := 381, descriptorIndex := 276, attributes := #[] }])
  fields := #[{ name := "MIN_VALUE", type := .long, accessFlags := 25, slot := 0, constantValue := 0 }, { name := "MAX_VALUE", type := .long, accessFlags := 25, slot := 1, constantValue := 0 }, { name := "TYPE", type := (.object "java/lang/Class"), accessFlags := 25, slot := 2, constantValue := 0 }, { name := "value", type := .long, accessFlags := 18, slot := 0, constantValue := 0 }, { name := "SIZE", type := .int, accessFlags := 25, slot := 3, constantValue := 0 }, { name := "BYTES", type := .int, accessFlags := 25, slot := 4, constantValue := 0 }, { name := "serialVersionUID", type := .long, accessFlags := 26, slot := 5, constantValue := 0 }]
  methods := #[k8m0, k8m1]
  instanceTypes := #[.long]
  staticTypes := #[.long, .long, (.object "java/lang/Class"), .int, .int, .long]
  resolved := Array.replicate 524 none
  statics := none }

def pool9 : Array CpInfo := pool [(2, .class_ 4), (1, u "java/lang/Object"), (0, u "<init>"), (0, u "()V"), (0, .class_ 8), (0, u "java/lang/Long"), (7, .class_ 18), (1, u "java/lang/Long$LongCache"), (0, u "$assertionsDisabled"), (0, u "Z"), (8, u "archivedCache"), (0, u "[Ljava/lang/Long;"), (7, u "cache")] 24

def k9m0 : Method := { name := "<init>", desc := "()V", sig := { parameters := [], returnType := none }, accessFlags := 2, code := none }
/-- java/lang/Long$LongCache -/
def k9 : Class := { plain "java/lang/Long$LongCache" (some 0) with
  accessFlags := 48
  interfaces := #[]
  cf := some (fileOf pool9 16 #[.nestHost 7] #[{ accessFlags := 2, nameIndex := 5, descriptorIndex := 6, attributes := #[] }] 48 2 #[] #[{ accessFlags := 24, nameIndex := 38, descriptorIndex := 30, attributes := #[] }, { accessFlags := 8, nameIndex := 29, descriptorIndex := 30, attributes := #[] }, { accessFlags := 4120, nameIndex := 19, descriptorIndex := 20, attributes := #[] }])
  fields := #[{ name := "cache", type := (.array (.object "java/lang/Long")), accessFlags := 24, slot := 0, constantValue := 0 }, { name := "archivedCache", type := (.array (.object "java/lang/Long")), accessFlags := 8, slot := 1, constantValue := 0 }, { name := "$assertionsDisabled", type := .boolean, accessFlags := 4120, slot := 2, constantValue := 0 }]
  methods := #[k9m0]
  instanceTypes := #[]
  staticTypes := #[(.array (.object "java/lang/Long")), (.array (.object "java/lang/Long")), .boolean]
  resolved := Array.replicate 63 none
  statics := some 0 }

def pool10 : Array CpInfo := pool [(1, u "java/lang/Cloneable"), (0, .class_ 1), (0, u "java/lang/Object"), (0, .class_ 3)] 3

/-- java/lang/Cloneable -/
def k10 : Class := { plain "java/lang/Cloneable" (some 0) with
  accessFlags := 1537
  interfaces := #[]
  cf := some (fileOf pool10 2 #[] #[] 1537 4 #[] #[])
  fields := #[]
  methods := #[]
  instanceTypes := #[]
  staticTypes := #[]
  resolved := Array.replicate 8 none
  statics := none }

/-- the primitive byte -/
def k11 : Class := { plain "byte" none with kind := .primitive 'B', accessFlags := 0x411 }
/-- [B -/
def k12 : Class := { plain "[B" (some 0) with kind := .array 11 .byte, interfaces := #[10, 3], accessFlags := 1041 }

/-- the primitive int -/
def k13 : Class := { plain "int" none with kind := .primitive 'I', accessFlags := 0x411 }
/-- [I -/
def k14 : Class := { plain "[I" (some 0) with kind := .array 13 .int, interfaces := #[10, 3], accessFlags := 1041 }

/-- [Ljava/lang/Long; -/
def k15 : Class := { plain "[Ljava/lang/Long;" (some 0) with kind := .array 8 (.object "java/lang/Long"), interfaces := #[10, 3], accessFlags := 1041 }

def heap : Heap := #[{ cls := 9, slots := #[.ref 1, .null, .int 0], vm := .statics 9 },
  { cls := 15, slots := #[.ref 2, .ref 3, .ref 4, .ref 5, .ref 6, .ref 7, .ref 8, .ref 9, .ref 10, .ref 11, .ref 12, .ref 13, .ref 14, .ref 15, .ref 16, .ref 17, .ref 18, .ref 19, .ref 20, .ref 21, .ref 22, .ref 23, .ref 24, .ref 25, .ref 26, .ref 27, .ref 28, .ref 29, .ref 30, .ref 31, .ref 32, .ref 33, .ref 34, .ref 35, .ref 36, .ref 37, .ref 38, .ref 39, .ref 40, .ref 41, .ref 42, .ref 43, .ref 44, .ref 45, .ref 46, .ref 47, .ref 48, .ref 49, .ref 50, .ref 51, .ref 52, .ref 53, .ref 54, .ref 55, .ref 56, .ref 57, .ref 58, .ref 59, .ref 60, .ref 61, .ref 62, .ref 63, .ref 64, .ref 65, .ref 66, .ref 67, .ref 68, .ref 69, .ref 70, .ref 71, .ref 72, .ref 73, .ref 74, .ref 75, .ref 76, .ref 77, .ref 78, .ref 79, .ref 80, .ref 81, .ref 82, .ref 83, .ref 84, .ref 85, .ref 86, .ref 87, .ref 88, .ref 89, .ref 90, .ref 91, .ref 92, .ref 93, .ref 94, .ref 95, .ref 96, .ref 97, .ref 98, .ref 99, .ref 100, .ref 101, .ref 102, .ref 103, .ref 104, .ref 105, .ref 106, .ref 107, .ref 108, .ref 109, .ref 110, .ref 111, .ref 112, .ref 113, .ref 114, .ref 115, .ref 116, .ref 117, .ref 118, .ref 119, .ref 120, .ref 121, .ref 122, .ref 123, .ref 124, .ref 125, .ref 126, .ref 127, .ref 128, .ref 129, .ref 130, .ref 131, .ref 132, .ref 133, .ref 134, .ref 135, .ref 136, .ref 137, .ref 138, .ref 139, .ref 140, .ref 141, .ref 142, .ref 143, .ref 144, .ref 145, .ref 146, .ref 147, .ref 148, .ref 149, .ref 150, .ref 151, .ref 152, .ref 153, .ref 154, .ref 155, .ref 156, .ref 157, .ref 158, .ref 159, .ref 160, .ref 161, .ref 162, .ref 163, .ref 164, .ref 165, .ref 166, .ref 167, .ref 168, .ref 169, .ref 170, .ref 171, .ref 172, .ref 173, .ref 174, .ref 175, .ref 176, .ref 177, .ref 178, .ref 179, .ref 180, .ref 181, .ref 182, .ref 183, .ref 184, .ref 185, .ref 186, .ref 187, .ref 188, .ref 189, .ref 190, .ref 191, .ref 192, .ref 193, .ref 194, .ref 195, .ref 196, .ref 197, .ref 198, .ref 199, .ref 200, .ref 201, .ref 202, .ref 203, .ref 204, .ref 205, .ref 206, .ref 207, .ref 208, .ref 209, .ref 210, .ref 211, .ref 212, .ref 213, .ref 214, .ref 215, .ref 216, .ref 217, .ref 218, .ref 219, .ref 220, .ref 221, .ref 222, .ref 223, .ref 224, .ref 225, .ref 226, .ref 227, .ref 228, .ref 229, .ref 230, .ref 231, .ref 232, .ref 233, .ref 234, .ref 235, .ref 236, .ref 237, .ref 238, .ref 239, .ref 240, .ref 241, .ref 242, .ref 243, .ref 244, .ref 245, .ref 246, .ref 247, .ref 248, .ref 249, .ref 250, .ref 251, .ref 252, .ref 253, .ref 254, .ref 255, .ref 256, .ref 257], vm := .none },
  { cls := 8, slots := #[.long (-128)], vm := .none },
  { cls := 8, slots := #[.long (-127)], vm := .none },
  { cls := 8, slots := #[.long (-126)], vm := .none },
  { cls := 8, slots := #[.long (-125)], vm := .none },
  { cls := 8, slots := #[.long (-124)], vm := .none },
  { cls := 8, slots := #[.long (-123)], vm := .none },
  { cls := 8, slots := #[.long (-122)], vm := .none },
  { cls := 8, slots := #[.long (-121)], vm := .none },
  { cls := 8, slots := #[.long (-120)], vm := .none },
  { cls := 8, slots := #[.long (-119)], vm := .none },
  { cls := 8, slots := #[.long (-118)], vm := .none },
  { cls := 8, slots := #[.long (-117)], vm := .none },
  { cls := 8, slots := #[.long (-116)], vm := .none },
  { cls := 8, slots := #[.long (-115)], vm := .none },
  { cls := 8, slots := #[.long (-114)], vm := .none },
  { cls := 8, slots := #[.long (-113)], vm := .none },
  { cls := 8, slots := #[.long (-112)], vm := .none },
  { cls := 8, slots := #[.long (-111)], vm := .none },
  { cls := 8, slots := #[.long (-110)], vm := .none },
  { cls := 8, slots := #[.long (-109)], vm := .none },
  { cls := 8, slots := #[.long (-108)], vm := .none },
  { cls := 8, slots := #[.long (-107)], vm := .none },
  { cls := 8, slots := #[.long (-106)], vm := .none },
  { cls := 8, slots := #[.long (-105)], vm := .none },
  { cls := 8, slots := #[.long (-104)], vm := .none },
  { cls := 8, slots := #[.long (-103)], vm := .none },
  { cls := 8, slots := #[.long (-102)], vm := .none },
  { cls := 8, slots := #[.long (-101)], vm := .none },
  { cls := 8, slots := #[.long (-100)], vm := .none },
  { cls := 8, slots := #[.long (-99)], vm := .none },
  { cls := 8, slots := #[.long (-98)], vm := .none },
  { cls := 8, slots := #[.long (-97)], vm := .none },
  { cls := 8, slots := #[.long (-96)], vm := .none },
  { cls := 8, slots := #[.long (-95)], vm := .none },
  { cls := 8, slots := #[.long (-94)], vm := .none },
  { cls := 8, slots := #[.long (-93)], vm := .none },
  { cls := 8, slots := #[.long (-92)], vm := .none },
  { cls := 8, slots := #[.long (-91)], vm := .none },
  { cls := 8, slots := #[.long (-90)], vm := .none },
  { cls := 8, slots := #[.long (-89)], vm := .none },
  { cls := 8, slots := #[.long (-88)], vm := .none },
  { cls := 8, slots := #[.long (-87)], vm := .none },
  { cls := 8, slots := #[.long (-86)], vm := .none },
  { cls := 8, slots := #[.long (-85)], vm := .none },
  { cls := 8, slots := #[.long (-84)], vm := .none },
  { cls := 8, slots := #[.long (-83)], vm := .none },
  { cls := 8, slots := #[.long (-82)], vm := .none },
  { cls := 8, slots := #[.long (-81)], vm := .none },
  { cls := 8, slots := #[.long (-80)], vm := .none },
  { cls := 8, slots := #[.long (-79)], vm := .none },
  { cls := 8, slots := #[.long (-78)], vm := .none },
  { cls := 8, slots := #[.long (-77)], vm := .none },
  { cls := 8, slots := #[.long (-76)], vm := .none },
  { cls := 8, slots := #[.long (-75)], vm := .none },
  { cls := 8, slots := #[.long (-74)], vm := .none },
  { cls := 8, slots := #[.long (-73)], vm := .none },
  { cls := 8, slots := #[.long (-72)], vm := .none },
  { cls := 8, slots := #[.long (-71)], vm := .none },
  { cls := 8, slots := #[.long (-70)], vm := .none },
  { cls := 8, slots := #[.long (-69)], vm := .none },
  { cls := 8, slots := #[.long (-68)], vm := .none },
  { cls := 8, slots := #[.long (-67)], vm := .none },
  { cls := 8, slots := #[.long (-66)], vm := .none },
  { cls := 8, slots := #[.long (-65)], vm := .none },
  { cls := 8, slots := #[.long (-64)], vm := .none },
  { cls := 8, slots := #[.long (-63)], vm := .none },
  { cls := 8, slots := #[.long (-62)], vm := .none },
  { cls := 8, slots := #[.long (-61)], vm := .none },
  { cls := 8, slots := #[.long (-60)], vm := .none },
  { cls := 8, slots := #[.long (-59)], vm := .none },
  { cls := 8, slots := #[.long (-58)], vm := .none },
  { cls := 8, slots := #[.long (-57)], vm := .none },
  { cls := 8, slots := #[.long (-56)], vm := .none },
  { cls := 8, slots := #[.long (-55)], vm := .none },
  { cls := 8, slots := #[.long (-54)], vm := .none },
  { cls := 8, slots := #[.long (-53)], vm := .none },
  { cls := 8, slots := #[.long (-52)], vm := .none },
  { cls := 8, slots := #[.long (-51)], vm := .none },
  { cls := 8, slots := #[.long (-50)], vm := .none },
  { cls := 8, slots := #[.long (-49)], vm := .none },
  { cls := 8, slots := #[.long (-48)], vm := .none },
  { cls := 8, slots := #[.long (-47)], vm := .none },
  { cls := 8, slots := #[.long (-46)], vm := .none },
  { cls := 8, slots := #[.long (-45)], vm := .none },
  { cls := 8, slots := #[.long (-44)], vm := .none },
  { cls := 8, slots := #[.long (-43)], vm := .none },
  { cls := 8, slots := #[.long (-42)], vm := .none },
  { cls := 8, slots := #[.long (-41)], vm := .none },
  { cls := 8, slots := #[.long (-40)], vm := .none },
  { cls := 8, slots := #[.long (-39)], vm := .none },
  { cls := 8, slots := #[.long (-38)], vm := .none },
  { cls := 8, slots := #[.long (-37)], vm := .none },
  { cls := 8, slots := #[.long (-36)], vm := .none },
  { cls := 8, slots := #[.long (-35)], vm := .none },
  { cls := 8, slots := #[.long (-34)], vm := .none },
  { cls := 8, slots := #[.long (-33)], vm := .none },
  { cls := 8, slots := #[.long (-32)], vm := .none },
  { cls := 8, slots := #[.long (-31)], vm := .none },
  { cls := 8, slots := #[.long (-30)], vm := .none },
  { cls := 8, slots := #[.long (-29)], vm := .none },
  { cls := 8, slots := #[.long (-28)], vm := .none },
  { cls := 8, slots := #[.long (-27)], vm := .none },
  { cls := 8, slots := #[.long (-26)], vm := .none },
  { cls := 8, slots := #[.long (-25)], vm := .none },
  { cls := 8, slots := #[.long (-24)], vm := .none },
  { cls := 8, slots := #[.long (-23)], vm := .none },
  { cls := 8, slots := #[.long (-22)], vm := .none },
  { cls := 8, slots := #[.long (-21)], vm := .none },
  { cls := 8, slots := #[.long (-20)], vm := .none },
  { cls := 8, slots := #[.long (-19)], vm := .none },
  { cls := 8, slots := #[.long (-18)], vm := .none },
  { cls := 8, slots := #[.long (-17)], vm := .none },
  { cls := 8, slots := #[.long (-16)], vm := .none },
  { cls := 8, slots := #[.long (-15)], vm := .none },
  { cls := 8, slots := #[.long (-14)], vm := .none },
  { cls := 8, slots := #[.long (-13)], vm := .none },
  { cls := 8, slots := #[.long (-12)], vm := .none },
  { cls := 8, slots := #[.long (-11)], vm := .none },
  { cls := 8, slots := #[.long (-10)], vm := .none },
  { cls := 8, slots := #[.long (-9)], vm := .none },
  { cls := 8, slots := #[.long (-8)], vm := .none },
  { cls := 8, slots := #[.long (-7)], vm := .none },
  { cls := 8, slots := #[.long (-6)], vm := .none },
  { cls := 8, slots := #[.long (-5)], vm := .none },
  { cls := 8, slots := #[.long (-4)], vm := .none },
  { cls := 8, slots := #[.long (-3)], vm := .none },
  { cls := 8, slots := #[.long (-2)], vm := .none },
  { cls := 8, slots := #[.long (-1)], vm := .none },
  { cls := 8, slots := #[.long (0)], vm := .none },
  { cls := 8, slots := #[.long (1)], vm := .none },
  { cls := 8, slots := #[.long (2)], vm := .none },
  { cls := 8, slots := #[.long (3)], vm := .none },
  { cls := 8, slots := #[.long (4)], vm := .none },
  { cls := 8, slots := #[.long (5)], vm := .none },
  { cls := 8, slots := #[.long (6)], vm := .none },
  { cls := 8, slots := #[.long (7)], vm := .none },
  { cls := 8, slots := #[.long (8)], vm := .none },
  { cls := 8, slots := #[.long (9)], vm := .none },
  { cls := 8, slots := #[.long (10)], vm := .none },
  { cls := 8, slots := #[.long (11)], vm := .none },
  { cls := 8, slots := #[.long (12)], vm := .none },
  { cls := 8, slots := #[.long (13)], vm := .none },
  { cls := 8, slots := #[.long (14)], vm := .none },
  { cls := 8, slots := #[.long (15)], vm := .none },
  { cls := 8, slots := #[.long (16)], vm := .none },
  { cls := 8, slots := #[.long (17)], vm := .none },
  { cls := 8, slots := #[.long (18)], vm := .none },
  { cls := 8, slots := #[.long (19)], vm := .none },
  { cls := 8, slots := #[.long (20)], vm := .none },
  { cls := 8, slots := #[.long (21)], vm := .none },
  { cls := 8, slots := #[.long (22)], vm := .none },
  { cls := 8, slots := #[.long (23)], vm := .none },
  { cls := 8, slots := #[.long (24)], vm := .none },
  { cls := 8, slots := #[.long (25)], vm := .none },
  { cls := 8, slots := #[.long (26)], vm := .none },
  { cls := 8, slots := #[.long (27)], vm := .none },
  { cls := 8, slots := #[.long (28)], vm := .none },
  { cls := 8, slots := #[.long (29)], vm := .none },
  { cls := 8, slots := #[.long (30)], vm := .none },
  { cls := 8, slots := #[.long (31)], vm := .none },
  { cls := 8, slots := #[.long (32)], vm := .none },
  { cls := 8, slots := #[.long (33)], vm := .none },
  { cls := 8, slots := #[.long (34)], vm := .none },
  { cls := 8, slots := #[.long (35)], vm := .none },
  { cls := 8, slots := #[.long (36)], vm := .none },
  { cls := 8, slots := #[.long (37)], vm := .none },
  { cls := 8, slots := #[.long (38)], vm := .none },
  { cls := 8, slots := #[.long (39)], vm := .none },
  { cls := 8, slots := #[.long (40)], vm := .none },
  { cls := 8, slots := #[.long (41)], vm := .none },
  { cls := 8, slots := #[.long (42)], vm := .none },
  { cls := 8, slots := #[.long (43)], vm := .none },
  { cls := 8, slots := #[.long (44)], vm := .none },
  { cls := 8, slots := #[.long (45)], vm := .none },
  { cls := 8, slots := #[.long (46)], vm := .none },
  { cls := 8, slots := #[.long (47)], vm := .none },
  { cls := 8, slots := #[.long (48)], vm := .none },
  { cls := 8, slots := #[.long (49)], vm := .none },
  { cls := 8, slots := #[.long (50)], vm := .none },
  { cls := 8, slots := #[.long (51)], vm := .none },
  { cls := 8, slots := #[.long (52)], vm := .none },
  { cls := 8, slots := #[.long (53)], vm := .none },
  { cls := 8, slots := #[.long (54)], vm := .none },
  { cls := 8, slots := #[.long (55)], vm := .none },
  { cls := 8, slots := #[.long (56)], vm := .none },
  { cls := 8, slots := #[.long (57)], vm := .none },
  { cls := 8, slots := #[.long (58)], vm := .none },
  { cls := 8, slots := #[.long (59)], vm := .none },
  { cls := 8, slots := #[.long (60)], vm := .none },
  { cls := 8, slots := #[.long (61)], vm := .none },
  { cls := 8, slots := #[.long (62)], vm := .none },
  { cls := 8, slots := #[.long (63)], vm := .none },
  { cls := 8, slots := #[.long (64)], vm := .none },
  { cls := 8, slots := #[.long (65)], vm := .none },
  { cls := 8, slots := #[.long (66)], vm := .none },
  { cls := 8, slots := #[.long (67)], vm := .none },
  { cls := 8, slots := #[.long (68)], vm := .none },
  { cls := 8, slots := #[.long (69)], vm := .none },
  { cls := 8, slots := #[.long (70)], vm := .none },
  { cls := 8, slots := #[.long (71)], vm := .none },
  { cls := 8, slots := #[.long (72)], vm := .none },
  { cls := 8, slots := #[.long (73)], vm := .none },
  { cls := 8, slots := #[.long (74)], vm := .none },
  { cls := 8, slots := #[.long (75)], vm := .none },
  { cls := 8, slots := #[.long (76)], vm := .none },
  { cls := 8, slots := #[.long (77)], vm := .none },
  { cls := 8, slots := #[.long (78)], vm := .none },
  { cls := 8, slots := #[.long (79)], vm := .none },
  { cls := 8, slots := #[.long (80)], vm := .none },
  { cls := 8, slots := #[.long (81)], vm := .none },
  { cls := 8, slots := #[.long (82)], vm := .none },
  { cls := 8, slots := #[.long (83)], vm := .none },
  { cls := 8, slots := #[.long (84)], vm := .none },
  { cls := 8, slots := #[.long (85)], vm := .none },
  { cls := 8, slots := #[.long (86)], vm := .none },
  { cls := 8, slots := #[.long (87)], vm := .none },
  { cls := 8, slots := #[.long (88)], vm := .none },
  { cls := 8, slots := #[.long (89)], vm := .none },
  { cls := 8, slots := #[.long (90)], vm := .none },
  { cls := 8, slots := #[.long (91)], vm := .none },
  { cls := 8, slots := #[.long (92)], vm := .none },
  { cls := 8, slots := #[.long (93)], vm := .none },
  { cls := 8, slots := #[.long (94)], vm := .none },
  { cls := 8, slots := #[.long (95)], vm := .none },
  { cls := 8, slots := #[.long (96)], vm := .none },
  { cls := 8, slots := #[.long (97)], vm := .none },
  { cls := 8, slots := #[.long (98)], vm := .none },
  { cls := 8, slots := #[.long (99)], vm := .none },
  { cls := 8, slots := #[.long (100)], vm := .none },
  { cls := 8, slots := #[.long (101)], vm := .none },
  { cls := 8, slots := #[.long (102)], vm := .none },
  { cls := 8, slots := #[.long (103)], vm := .none },
  { cls := 8, slots := #[.long (104)], vm := .none },
  { cls := 8, slots := #[.long (105)], vm := .none },
  { cls := 8, slots := #[.long (106)], vm := .none },
  { cls := 8, slots := #[.long (107)], vm := .none },
  { cls := 8, slots := #[.long (108)], vm := .none },
  { cls := 8, slots := #[.long (109)], vm := .none },
  { cls := 8, slots := #[.long (110)], vm := .none },
  { cls := 8, slots := #[.long (111)], vm := .none },
  { cls := 8, slots := #[.long (112)], vm := .none },
  { cls := 8, slots := #[.long (113)], vm := .none },
  { cls := 8, slots := #[.long (114)], vm := .none },
  { cls := 8, slots := #[.long (115)], vm := .none },
  { cls := 8, slots := #[.long (116)], vm := .none },
  { cls := 8, slots := #[.long (117)], vm := .none },
  { cls := 8, slots := #[.long (118)], vm := .none },
  { cls := 8, slots := #[.long (119)], vm := .none },
  { cls := 8, slots := #[.long (120)], vm := .none },
  { cls := 8, slots := #[.long (121)], vm := .none },
  { cls := 8, slots := #[.long (122)], vm := .none },
  { cls := 8, slots := #[.long (123)], vm := .none },
  { cls := 8, slots := #[.long (124)], vm := .none },
  { cls := 8, slots := #[.long (125)], vm := .none },
  { cls := 8, slots := #[.long (126)], vm := .none },
  { cls := 8, slots := #[.long (127)], vm := .none }]
def classes : Array Class := #[k0, k1, k2, k3, k4, k5, k6, k7, k8, k9, k10, k11, k12, k13, k14, k15]
def interned : List (Array UInt16 × Addr) := []
def slotsUsed : Nat := 515
def theMethod : MethodId := ⟨1, 3⟩
def args0 : Array Value := #[.long 5, .int 6, .long 7, .int 8, .int 0]
def aboutOver (below : List Frame) : State where
  vm := { classes := classes, interned := interned.toArray }
  heap := heap
  slotsUsed := slotsUsed
  threads := #[{ frames := .invoking theMethod args0 :: below }]
def below0 : List Frame := [.native { method := ⟨0, 0⟩, args := #[] }]
def about1 : State := aboutOver below0
def p0 : Program := .bare "" "" ""
def e0 : Env := launch0.env 0 0 0
theorem w_frames : about1.frames = Frame.invoking theMethod args0 :: below0 := rfl
set_option maxRecDepth 65536 in
theorem w_args : argsFit about1.vm theMethod args0 = true := by decide +kernel
set_option maxRecDepth 65536 in
theorem w_heap : heapFits about1 = true := by decide +kernel
set_option maxRecDepth 65536 in
theorem w_runnable : about1.curStatus? = some .runnable := by decide +kernel
set_option maxRecDepth 65536 in
theorem w_alone : about1.alone = true := by decide +kernel
set_option maxRecDepth 65536 in
theorem w_named : about1.methodNamed? x = some theMethod := by decide +kernel
set_option maxRecDepth 65536 in
theorem w_hears : about1.hears theMethod below0 = true := by decide +kernel
set_option maxRecDepth 65536 in
theorem w_ripe : about1.ripe theMethod args0 below0 = true := by decide +kernel
theorem w_running : about1.status = .running := rfl
set_option maxRecDepth 65536 in
theorem w_room : about1.hasRoom e0.platform room_1 = true :=
  launch0.hasRoom_least _ room_1 (by decide +kernel) (by decide +kernel) (by decide +kernel) (by decide +kernel) (by decide +kernel) (by decide +kernel)
theorem allAtoms_all (ts : List Jvm.Cond) (a : Array Jvm.Value) (st : Jvm.State) : (allAtoms ts).before a st = ts.all (fun c => c.before a st) := by
  induction ts with
  | nil => rfl
  | cons c t ih =>
    show (Jvm.Cond.and c (allAtoms t)).before a st = _
    rw [Jvm.Cond.before_and, ih, List.all_cons]
def words1 : List Jvm.Cond := Jvm.Cond.code x code maxLocals ret :: tables_1
/-- a 'code' word, met by the world's own term for the bytes: nothing is compared byte by byte -/
theorem code_word {y : MethodName} {bytes : ByteArray} {mx : Nat} {rt : Option FieldType} {a : Array Value} {s : State} {m : MethodId} {meth : Method} {c : Code} (h1 : s.methodNamed? y = some m) (h2 : s.vm.method? m = some meth) (h3 : meth.code = some c) (h4 : c.code = bytes)
    (h5 : (c.maxLocals == mx && c.exceptionTable.isEmpty && decide (c.maxStack ≤ mostOperands) && decide (meth.sig.returnType = rt) && !meth.locks && decide (parseMethodDescriptor y.desc = some meth.sig)) = true) : (Jvm.Cond.code y bytes mx rt).before a s = true := by
  simp only [Bool.and_eq_true, beq_iff_eq, Bool.not_eq_true', decide_eq_true_eq] at h5
  obtain ⟨⟨⟨⟨⟨g1, g2⟩, g3⟩, g4⟩, g5⟩, g6⟩ := h5
  simp [Cond.before, Cond.holds, Cond.value, h1, h2, h3, h4, g1, g2, g3, g4, g5, g6]
def isCode : Jvm.Cond → Bool
  | .code _ _ _ _ => true
  | _ => false
theorem all_split {L : List Jvm.Cond} {P : Jvm.Cond → Bool} (h1 : L.all (fun c => isCode c || P c) = true) (h2 : ∀ c ∈ L.filter isCode, P c = true) : L.all P = true := by
  refine List.all_eq_true.mpr fun c hc => ?_
  have h := List.all_eq_true.mp h1 c hc
  rcases Bool.eq_false_or_eq_true (isCode c) with hi | hi
  · exact h2 c (List.mem_filter.mpr ⟨hc, hi⟩)
  · simpa [hi] using h
set_option maxRecDepth 65536 in
theorem w_c0 : (Jvm.Cond.code x code maxLocals ret).before args0 about1 = true := code_word (m := ⟨1, 3⟩) (meth := k1m3) (c := k1c3) (by decide +kernel) rfl rfl rfl (by decide +kernel)
set_option maxRecDepth 65536 in
theorem w_c1 : (Jvm.Cond.code ({ cls := "com/example/kept_reads/keptreads/wire/ReadGroupEqualsPinLaw", name := "posL", desc := "(J)J" } : Jvm.MethodName) method_2_code (4 : Nat) (Option.some Jvm.ClassFile.FieldType.long)).before args0 about1 = true := code_word (m := ⟨1, 1⟩) (meth := k1m1) (c := k1c1) (by decide +kernel) rfl rfl rfl (by decide +kernel)
set_option maxRecDepth 65536 in
theorem w_c2 : (Jvm.Cond.code ({ cls := "com/example/kept_reads/keptreads/wire/ReadGroupEqualsPinLaw", name := "posI", desc := "(I)I" } : Jvm.MethodName) method_3_code (2 : Nat) (Option.some Jvm.ClassFile.FieldType.int)).before args0 about1 = true := code_word (m := ⟨1, 2⟩) (meth := k1m2) (c := k1c2) (by decide +kernel) rfl rfl rfl (by decide +kernel)
set_option maxRecDepth 65536 in
theorem w_c3 : (Jvm.Cond.code ({ cls := "com/example/kept_reads/keptreads/wire/ReadGroup", name := "<init>", desc := "(JI)V" } : Jvm.MethodName) prog_43_method_1_code (4 : Nat) (Option.none : Option Jvm.ClassFile.FieldType)).before args0 about1 = true := code_word (m := ⟨2, 0⟩) (meth := k2m0) (c := k2c0) (by decide +kernel) rfl rfl rfl (by decide +kernel)
set_option maxRecDepth 65536 in
theorem w_c4 : (Jvm.Cond.code ({ cls := "java/lang/Object", name := "<init>", desc := "()V" } : Jvm.MethodName) object_method_1_code (1 : Nat) (Option.none : Option Jvm.ClassFile.FieldType)).before args0 about1 = true := code_word (m := ⟨0, 0⟩) (meth := k0m0) (c := k0c0) (by decide +kernel) rfl rfl rfl (by decide +kernel)
set_option maxRecDepth 65536 in
theorem w_c5 : (Jvm.Cond.code ({ cls := "com/example/kept_reads/keptreads/wire/ReadGroup", name := "equals", desc := "(Ljava/lang/Object;)Z" } : Jvm.MethodName) prog_43_method_4_code (3 : Nat) (Option.some Jvm.ClassFile.FieldType.boolean)).before args0 about1 = true := code_word (m := ⟨2, 1⟩) (meth := k2m1) (c := k2c1) (by decide +kernel) rfl rfl rfl (by decide +kernel)
set_option maxRecDepth 65536 in
theorem w_c6 : (Jvm.Cond.code ({ cls := "java/lang/Long", name := "valueOf", desc := "(J)Ljava/lang/Long;" } : Jvm.MethodName) jdk_35_method_24_code (3 : Nat) (Option.some (Jvm.ClassFile.FieldType.object "java/lang/Long"))).before args0 about1 = true := code_word (m := ⟨8, 0⟩) (meth := k8m0) (c := k8c0) (by decide +kernel) rfl rfl rfl (by decide +kernel)
set_option maxRecDepth 65536 in
theorem w_c7 : (Jvm.Cond.code ({ cls := "java/lang/Long", name := "<init>", desc := "(J)V" } : Jvm.MethodName) jdk_35_method_26_code (3 : Nat) (Option.none : Option Jvm.ClassFile.FieldType)).before args0 about1 = true := code_word (m := ⟨8, 1⟩) (meth := k8m1) (c := k8c1) (by decide +kernel) rfl rfl rfl (by decide +kernel)
set_option maxRecDepth 65536 in
theorem w_c8 : (Jvm.Cond.code ({ cls := "java/lang/Number", name := "<init>", desc := "()V" } : Jvm.MethodName) jdk_18_method_1_code (1 : Nat) (Option.none : Option Jvm.ClassFile.FieldType)).before args0 about1 = true := code_word (m := ⟨4, 0⟩) (meth := k4m0) (c := k4c0) (by decide +kernel) rfl rfl rfl (by decide +kernel)
def codes1 : List Jvm.Cond := [Jvm.Cond.code x code maxLocals ret, Jvm.Cond.code ({ cls := "com/example/kept_reads/keptreads/wire/ReadGroupEqualsPinLaw", name := "posL", desc := "(J)J" } : Jvm.MethodName) method_2_code (4 : Nat) (Option.some Jvm.ClassFile.FieldType.long), Jvm.Cond.code ({ cls := "com/example/kept_reads/keptreads/wire/ReadGroupEqualsPinLaw", name := "posI", desc := "(I)I" } : Jvm.MethodName) method_3_code (2 : Nat) (Option.some Jvm.ClassFile.FieldType.int), Jvm.Cond.code ({ cls := "com/example/kept_reads/keptreads/wire/ReadGroup", name := "<init>", desc := "(JI)V" } : Jvm.MethodName) prog_43_method_1_code (4 : Nat) (Option.none : Option Jvm.ClassFile.FieldType), Jvm.Cond.code ({ cls := "java/lang/Object", name := "<init>", desc := "()V" } : Jvm.MethodName) object_method_1_code (1 : Nat) (Option.none : Option Jvm.ClassFile.FieldType), Jvm.Cond.code ({ cls := "com/example/kept_reads/keptreads/wire/ReadGroup", name := "equals", desc := "(Ljava/lang/Object;)Z" } : Jvm.MethodName) prog_43_method_4_code (3 : Nat) (Option.some Jvm.ClassFile.FieldType.boolean), Jvm.Cond.code ({ cls := "java/lang/Long", name := "valueOf", desc := "(J)Ljava/lang/Long;" } : Jvm.MethodName) jdk_35_method_24_code (3 : Nat) (Option.some (Jvm.ClassFile.FieldType.object "java/lang/Long")), Jvm.Cond.code ({ cls := "java/lang/Long", name := "<init>", desc := "(J)V" } : Jvm.MethodName) jdk_35_method_26_code (3 : Nat) (Option.none : Option Jvm.ClassFile.FieldType), Jvm.Cond.code ({ cls := "java/lang/Number", name := "<init>", desc := "()V" } : Jvm.MethodName) jdk_18_method_1_code (1 : Nat) (Option.none : Option Jvm.ClassFile.FieldType)]
set_option maxRecDepth 65536 in
theorem codes_eq : words1.filter isCode = codes1 := rfl
theorem w_codes : ∀ c ∈ words1.filter isCode, c.before args0 about1 = true := by
  rw [codes_eq]
  intro c hc
  simp only [codes1, List.mem_cons, List.not_mem_nil, or_false] at hc
  rcases hc with rfl | rfl | rfl | rfl | rfl | rfl | rfl | rfl | rfl
  · exact w_c0
  · exact w_c1
  · exact w_c2
  · exact w_c3
  · exact w_c4
  · exact w_c5
  · exact w_c6
  · exact w_c7
  · exact w_c8
set_option maxRecDepth 65536 in
theorem w_t1 : (words1.take 24).all (fun c => isCode c || c.before args0 about1) = true := by decide +kernel
set_option maxRecDepth 65536 in
theorem w_t2 : ((words1.drop 24).take 24).all (fun c => isCode c || c.before args0 about1) = true := by decide +kernel
set_option maxRecDepth 65536 in
theorem w_t3 : ((words1.drop 24).drop 24).all (fun c => isCode c || c.before args0 about1) = true := by decide +kernel
theorem w_tables : (allAtoms (Jvm.Cond.code x code maxLocals ret :: tables_1)).before args0 about1 = true := by
  rw [allAtoms_all]
  show words1.all (fun c => c.before args0 about1) = true
  refine all_split ?_ w_codes
  rw [← List.take_append_drop 24 words1, List.all_append, w_t1, ← List.take_append_drop 24 (words1.drop 24), List.all_append, w_t2, w_t3]
  rfl
set_option maxRecDepth 65536 in
theorem w_rest : rest_1_c.before args0 about1 = true := by decide +kernel
set_option maxRecDepth 65536 in
theorem w_case : (Jvm.Cond.and given_1 narrow_1).before args0 about1 = true := by decide +kernel
theorem w_applies : (headSpec (Jvm.Cond.code x code maxLocals ret :: tables_1) room_1).applies x e0.platform about1 = true :=
  (Spec.applies_iff w_frames).mpr ⟨w_running, w_runnable, w_alone, w_named, w_hears, w_ripe, w_room, w_tables⟩
theorem atStart : AtStart classFile x code maxLocals ret World_1 tables_1 room_1 Calls_1 rest_1 Pre_1 launch0 p0 e0 about1 theMethod args0 below0 :=
  ⟨lists_1, trivial, launch0.admits_env _ _ _, launch0.least_env, fairChoices_fair.cas, fairChoices_fair.clock, w_frames, w_args, w_heap, w_applies, trivial, w_rest, w_case⟩
end start1
theorem witness_1 : WitnessClaimed_1 := ⟨start1.p0, start1.e0, start1.about1, start1.theMethod, start1.args0, start1.below0, start1.atStart⟩
end Jvm.Pilot.@@N@@
