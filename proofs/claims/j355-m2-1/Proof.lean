import JvmDerived
import JvmDerived.Pilot.@@N@@Statement
import JvmDerived.Pilot.@@N@@Code
set_option linter.unusedVariables false
set_option linter.unusedSimpArgs false
namespace Jvm.RoadKit
open Sem ClassFile Op Lib Jvm.Stand Jvm.Free Jvm.LawKit
section New
variable {p : Program} {l : Launch} {e : Env} {R : Room} {s : State} {m : MethodId} {args : Array Value} {below : List Frame} {meth : Method} {c : Code} {T : State} {locs : List Loc} {cells slots : Nat}
theorem retI (X : Stand p l e R s m args below meth c T locs cells slots) (hx : p.tables.exec = Jvm.exec) {pc : Nat} {Ls : Array Slot} {z : Int32} {rest : List Value} (hret : meth.sig.returnType = some .int) (hd : decode c.code pc = .ok (.ireturn, 1)) {fs : List Frame}
    (hl : ∀ (f : JFrame) (acts : List Action), f.method = m → f.locked = none → f.entered = [] → (doReturn e (T.setTop f) acts (some (.int z))).1 = T.setFrames fs) : Steps p.tables e below (T.setTop (mkF m pc Ls (.int z :: rest))) (T.setFrames fs) := by
  have hm' : T.vm.method? m = some meth := X.method'
  have hn : narrow .int (.int z) = .int z := rfl
  show Steps p.tables e below (T.setTop { method := m, pc := pc, locals := Ls, stack := _ :: rest, locked := none }) _
  jvm_step X.here [X.here.top, hx, hd, hm', hret, hn]
  first | (intro acts; rw [hl _ acts rfl rfl rfl]) | rw [hl _ _ rfl rfl rfl]
  exact Steps.refl _
end New
end Jvm.RoadKit
namespace Jvm.Pilot.@@N@@
open Jvm Jvm.ClassFile Sem Op Lib Jvm.Free Jvm.Stand Jvm.LawKit Jvm.RoadKit Bundle Jvm.Pilot.@@N@@.Jvm.D
abbrev own_m16 (m : Int32) : Prop := m = (0 : Int32) ∨ m = (1 : Int32) ∨ m = (2 : Int32) ∨ m = (3 : Int32) ∨ m = (4 : Int32) ∨ m = (5 : Int32) ∨ m = (6 : Int32) ∨ m = (7 : Int32) ∨ m = (8 : Int32) ∨ m = (9 : Int32) ∨ m = (10 : Int32) ∨ m = (11 : Int32) ∨ m = (12 : Int32) ∨ m = (13 : Int32) ∨ m = (14 : Int32) ∨ m = (15 : Int32)
def own_cnt (P0 : Int32) : Int32 := ((((P0 &&& (1 : Int32)) + ((P0 >>> ((1 : Int32) &&& 31)) &&& (1 : Int32))) + ((P0 >>> ((2 : Int32) &&& 31)) &&& (1 : Int32))) + ((P0 >>> ((3 : Int32) &&& 31)) &&& (1 : Int32)))
def own_sel (m v0 v1 v2 v3 : Int32) : List Int32 := (if (m &&& (1 : Int32)) = (0 : Int32) then [] else [v0]) ++ ((if (m &&& (2 : Int32)) = (0 : Int32) then [] else [v1]) ++ ((if (m &&& (4 : Int32)) = (0 : Int32) then [] else [v2]) ++ (if (m &&& (8 : Int32)) = (0 : Int32) then [] else [v3])))
def own_sk (p : Nat → Bool) : Nat → Nat → Nat
  | k, 0 => k
  | k, n + 1 => if p k then own_sk p (k + 1) n else k
def own_ho (lt eq : Nat → Nat → Bool) (la : Nat) : Nat → Nat → Nat → Int32
  | _, _, 0 => 1
  | i, j, n + 1 => if own_sk (fun k => lt k j) i (la - i) = la then 0 else (if eq (own_sk (fun k => lt k j) i (la - i)) j then own_ho lt eq la (own_sk (fun k => lt k j) i (la - i) + 1) (j + 1) n else 0)
theorem own_ho01 (lt eq : Nat → Nat → Bool) (la : Nat) : ∀ (n i j : Nat), own_ho lt eq la i j n = 0 ∨ own_ho lt eq la i j n = 1
  | 0, _, _ => Or.inr rfl
  | n + 1, i, j => by
    rw [own_ho]
    split
    · exact Or.inl rfl
    · split
      · exact own_ho01 lt eq la n _ _
      · exact Or.inl rfl
theorem own_sk_le (p : Nat → Bool) : ∀ (n k : Nat), own_sk p k n ≤ k + n ∧ k ≤ own_sk p k n
  | 0, k => ⟨Nat.le_refl _, Nat.le_refl _⟩
  | n + 1, k => by
    rw [own_sk]
    split
    · have := own_sk_le p n (k + 1); omega
    · omega
def own_ha (L0 L1 : List Int32) : Int32 := if L0.length < L1.length then 0 else own_ho (fun q r => decide (L0.getD q 0 < L1.getD r 0)) (fun q r => decide (L0.getD q 0 = L1.getD r 0)) L0.length 0 0 L1.length
theorem own_suc (k : Nat) : (Int32.ofNat k) + (1 : Int32) = Int32.ofNat (k + 1) := (Int32.ofNat_add k 1).symm
theorem own_nat (k : Nat) (h : k < 100) : (Int32.ofNat k).toInt = k := Int32.toInt_ofNat_of_lt (by omega)
theorem own_lt {k L : Nat} {N : Int32} (h : N.toInt = (L : Int)) (hk : k < 100) : (Int32.ofNat k < N) ↔ k < L := by
  rw [Int32.lt_iff_toInt_lt, own_nat k hk, h]; omega
theorem own_eqn {k L : Nat} {N : Int32} (h : N.toInt = (L : Int)) (hk : k < 100) : (Int32.ofNat k = N) ↔ k = L := by
  rw [← Int32.toInt_inj, own_nat k hk, h]; omega
theorem own_nn {k : Nat} (hk : k < 100) : ¬ (Int32.ofNat k < 0) := by
  rw [Int32.lt_iff_toInt_lt, own_nat k hk]; show ¬ ((k : Int) < 0); omega
theorem own_clamp {k : Nat} (hk : k < 100) : (Int32.ofNat k).toNatClampNeg = k := by
  have h := own_nat k hk
  show (Int32.ofNat k).toInt.toNat = k
  omega
theorem own_getI (L : List Int32) (i : Nat) : (L.map Value.int).getD i (.int 0) = .int (L.getD i 0) := by
  simp only [List.getD_eq_getElem?_getD, List.getElem?_map]
  cases L[i]? <;> rfl
theorem own_getL (L : List Int32) {k : Nat} (hk : k < 100) : (L.map Value.int).getD (Int32.ofNat k).toNatClampNeg (.int 0) = .int (L.getD k 0) := by
  rw [own_clamp hk]; exact own_getI L k
theorem own_sel0 (v0 v1 v2 v3 : Int32) : own_sel (0 : Int32) v0 v1 v2 v3 = [] := by
  unfold own_sel
  rw [if_pos (show (((0 : Int32) &&& (1 : Int32)) = (0 : Int32)) from by decide), if_pos (show (((0 : Int32) &&& (2 : Int32)) = (0 : Int32)) from by decide), if_pos (show (((0 : Int32) &&& (4 : Int32)) = (0 : Int32)) from by decide), if_pos (show (((0 : Int32) &&& (8 : Int32)) = (0 : Int32)) from by decide)]
  rfl
theorem own_sel1 (v0 v1 v2 v3 : Int32) : own_sel (1 : Int32) v0 v1 v2 v3 = [v0] := by
  unfold own_sel
  rw [if_neg (show ¬ (((1 : Int32) &&& (1 : Int32)) = (0 : Int32)) from by decide), if_pos (show (((1 : Int32) &&& (2 : Int32)) = (0 : Int32)) from by decide), if_pos (show (((1 : Int32) &&& (4 : Int32)) = (0 : Int32)) from by decide), if_pos (show (((1 : Int32) &&& (8 : Int32)) = (0 : Int32)) from by decide)]
  rfl
theorem own_sel2 (v0 v1 v2 v3 : Int32) : own_sel (2 : Int32) v0 v1 v2 v3 = [v1] := by
  unfold own_sel
  rw [if_pos (show (((2 : Int32) &&& (1 : Int32)) = (0 : Int32)) from by decide), if_neg (show ¬ (((2 : Int32) &&& (2 : Int32)) = (0 : Int32)) from by decide), if_pos (show (((2 : Int32) &&& (4 : Int32)) = (0 : Int32)) from by decide), if_pos (show (((2 : Int32) &&& (8 : Int32)) = (0 : Int32)) from by decide)]
  rfl
theorem own_sel3 (v0 v1 v2 v3 : Int32) : own_sel (3 : Int32) v0 v1 v2 v3 = [v0, v1] := by
  unfold own_sel
  rw [if_neg (show ¬ (((3 : Int32) &&& (1 : Int32)) = (0 : Int32)) from by decide), if_neg (show ¬ (((3 : Int32) &&& (2 : Int32)) = (0 : Int32)) from by decide), if_pos (show (((3 : Int32) &&& (4 : Int32)) = (0 : Int32)) from by decide), if_pos (show (((3 : Int32) &&& (8 : Int32)) = (0 : Int32)) from by decide)]
  rfl
theorem own_sel4 (v0 v1 v2 v3 : Int32) : own_sel (4 : Int32) v0 v1 v2 v3 = [v2] := by
  unfold own_sel
  rw [if_pos (show (((4 : Int32) &&& (1 : Int32)) = (0 : Int32)) from by decide), if_pos (show (((4 : Int32) &&& (2 : Int32)) = (0 : Int32)) from by decide), if_neg (show ¬ (((4 : Int32) &&& (4 : Int32)) = (0 : Int32)) from by decide), if_pos (show (((4 : Int32) &&& (8 : Int32)) = (0 : Int32)) from by decide)]
  rfl
theorem own_sel5 (v0 v1 v2 v3 : Int32) : own_sel (5 : Int32) v0 v1 v2 v3 = [v0, v2] := by
  unfold own_sel
  rw [if_neg (show ¬ (((5 : Int32) &&& (1 : Int32)) = (0 : Int32)) from by decide), if_pos (show (((5 : Int32) &&& (2 : Int32)) = (0 : Int32)) from by decide), if_neg (show ¬ (((5 : Int32) &&& (4 : Int32)) = (0 : Int32)) from by decide), if_pos (show (((5 : Int32) &&& (8 : Int32)) = (0 : Int32)) from by decide)]
  rfl
theorem own_sel6 (v0 v1 v2 v3 : Int32) : own_sel (6 : Int32) v0 v1 v2 v3 = [v1, v2] := by
  unfold own_sel
  rw [if_pos (show (((6 : Int32) &&& (1 : Int32)) = (0 : Int32)) from by decide), if_neg (show ¬ (((6 : Int32) &&& (2 : Int32)) = (0 : Int32)) from by decide), if_neg (show ¬ (((6 : Int32) &&& (4 : Int32)) = (0 : Int32)) from by decide), if_pos (show (((6 : Int32) &&& (8 : Int32)) = (0 : Int32)) from by decide)]
  rfl
theorem own_sel7 (v0 v1 v2 v3 : Int32) : own_sel (7 : Int32) v0 v1 v2 v3 = [v0, v1, v2] := by
  unfold own_sel
  rw [if_neg (show ¬ (((7 : Int32) &&& (1 : Int32)) = (0 : Int32)) from by decide), if_neg (show ¬ (((7 : Int32) &&& (2 : Int32)) = (0 : Int32)) from by decide), if_neg (show ¬ (((7 : Int32) &&& (4 : Int32)) = (0 : Int32)) from by decide), if_pos (show (((7 : Int32) &&& (8 : Int32)) = (0 : Int32)) from by decide)]
  rfl
theorem own_sel8 (v0 v1 v2 v3 : Int32) : own_sel (8 : Int32) v0 v1 v2 v3 = [v3] := by
  unfold own_sel
  rw [if_pos (show (((8 : Int32) &&& (1 : Int32)) = (0 : Int32)) from by decide), if_pos (show (((8 : Int32) &&& (2 : Int32)) = (0 : Int32)) from by decide), if_pos (show (((8 : Int32) &&& (4 : Int32)) = (0 : Int32)) from by decide), if_neg (show ¬ (((8 : Int32) &&& (8 : Int32)) = (0 : Int32)) from by decide)]
  rfl
theorem own_sel9 (v0 v1 v2 v3 : Int32) : own_sel (9 : Int32) v0 v1 v2 v3 = [v0, v3] := by
  unfold own_sel
  rw [if_neg (show ¬ (((9 : Int32) &&& (1 : Int32)) = (0 : Int32)) from by decide), if_pos (show (((9 : Int32) &&& (2 : Int32)) = (0 : Int32)) from by decide), if_pos (show (((9 : Int32) &&& (4 : Int32)) = (0 : Int32)) from by decide), if_neg (show ¬ (((9 : Int32) &&& (8 : Int32)) = (0 : Int32)) from by decide)]
  rfl
theorem own_sel10 (v0 v1 v2 v3 : Int32) : own_sel (10 : Int32) v0 v1 v2 v3 = [v1, v3] := by
  unfold own_sel
  rw [if_pos (show (((10 : Int32) &&& (1 : Int32)) = (0 : Int32)) from by decide), if_neg (show ¬ (((10 : Int32) &&& (2 : Int32)) = (0 : Int32)) from by decide), if_pos (show (((10 : Int32) &&& (4 : Int32)) = (0 : Int32)) from by decide), if_neg (show ¬ (((10 : Int32) &&& (8 : Int32)) = (0 : Int32)) from by decide)]
  rfl
theorem own_sel11 (v0 v1 v2 v3 : Int32) : own_sel (11 : Int32) v0 v1 v2 v3 = [v0, v1, v3] := by
  unfold own_sel
  rw [if_neg (show ¬ (((11 : Int32) &&& (1 : Int32)) = (0 : Int32)) from by decide), if_neg (show ¬ (((11 : Int32) &&& (2 : Int32)) = (0 : Int32)) from by decide), if_pos (show (((11 : Int32) &&& (4 : Int32)) = (0 : Int32)) from by decide), if_neg (show ¬ (((11 : Int32) &&& (8 : Int32)) = (0 : Int32)) from by decide)]
  rfl
theorem own_sel12 (v0 v1 v2 v3 : Int32) : own_sel (12 : Int32) v0 v1 v2 v3 = [v2, v3] := by
  unfold own_sel
  rw [if_pos (show (((12 : Int32) &&& (1 : Int32)) = (0 : Int32)) from by decide), if_pos (show (((12 : Int32) &&& (2 : Int32)) = (0 : Int32)) from by decide), if_neg (show ¬ (((12 : Int32) &&& (4 : Int32)) = (0 : Int32)) from by decide), if_neg (show ¬ (((12 : Int32) &&& (8 : Int32)) = (0 : Int32)) from by decide)]
  rfl
theorem own_sel13 (v0 v1 v2 v3 : Int32) : own_sel (13 : Int32) v0 v1 v2 v3 = [v0, v2, v3] := by
  unfold own_sel
  rw [if_neg (show ¬ (((13 : Int32) &&& (1 : Int32)) = (0 : Int32)) from by decide), if_pos (show (((13 : Int32) &&& (2 : Int32)) = (0 : Int32)) from by decide), if_neg (show ¬ (((13 : Int32) &&& (4 : Int32)) = (0 : Int32)) from by decide), if_neg (show ¬ (((13 : Int32) &&& (8 : Int32)) = (0 : Int32)) from by decide)]
  rfl
theorem own_sel14 (v0 v1 v2 v3 : Int32) : own_sel (14 : Int32) v0 v1 v2 v3 = [v1, v2, v3] := by
  unfold own_sel
  rw [if_pos (show (((14 : Int32) &&& (1 : Int32)) = (0 : Int32)) from by decide), if_neg (show ¬ (((14 : Int32) &&& (2 : Int32)) = (0 : Int32)) from by decide), if_neg (show ¬ (((14 : Int32) &&& (4 : Int32)) = (0 : Int32)) from by decide), if_neg (show ¬ (((14 : Int32) &&& (8 : Int32)) = (0 : Int32)) from by decide)]
  rfl
theorem own_sel15 (v0 v1 v2 v3 : Int32) : own_sel (15 : Int32) v0 v1 v2 v3 = [v0, v1, v2, v3] := by
  unfold own_sel
  rw [if_neg (show ¬ (((15 : Int32) &&& (1 : Int32)) = (0 : Int32)) from by decide), if_neg (show ¬ (((15 : Int32) &&& (2 : Int32)) = (0 : Int32)) from by decide), if_neg (show ¬ (((15 : Int32) &&& (4 : Int32)) = (0 : Int32)) from by decide), if_neg (show ¬ (((15 : Int32) &&& (8 : Int32)) = (0 : Int32)) from by decide)]
  rfl
theorem own_tab {Z s : State} {a0 args : Array Value} (hZ : Z.Warmed39 s.vm) (hw : ∀ d ∈ tables_1, d.before a0 Z = true) : Hash.AHI.tab.before args s = true := by
  have w1 := mvT (args := args) hZ (hw _ (List.mem_of_getElem? (i := 23) rfl))
  have w2 := mvT (args := args) hZ (hw _ (List.mem_of_getElem? (i := 31) rfl))
  have w3 := mvT (args := args) hZ (hw _ (List.mem_of_getElem? (i := 32) rfl))
  have w4 := mvT (args := args) hZ (hw _ (List.mem_of_getElem? (i := 34) rfl))
  have w5 := mvT (args := args) hZ (hw _ (List.mem_of_getElem? (i := 35) rfl))
  have w6 := mvT (args := args) hZ (hw _ (List.mem_of_getElem? (i := 37) rfl))
  have w7 := mvT (args := args) hZ (hw _ (List.mem_of_getElem? (i := 38) rfl))
  have w8 := mvT (args := args) hZ (hw _ (List.mem_of_getElem? (i := 39) rfl))
  have w9 := mvT (args := args) hZ (hw _ (List.mem_of_getElem? (i := 33) rfl))
  have w10 := mvT (args := args) hZ (hw _ (List.mem_of_getElem? (i := 22) rfl))
  simp only [Hash.AHI.tab, Hash.VHI.tab, Cond.before_and, Bool.and_eq_true]
  exact ⟨w1, w2, w3, ⟨w4, w5, w6, w7, w8, w9⟩, w9, w10⟩
theorem d1_0 : decode method_3_code 0 = .ok (.iload_n 0, 1) := by decide +kernel
theorem d1_1 : decode method_3_code 1 = .ok (.iconst 1, 1) := by decide +kernel
theorem d1_2 : decode method_3_code 2 = .ok (.iand, 1) := by decide +kernel
theorem d1_3 : decode method_3_code 3 = .ok (.iload_n 0, 1) := by decide +kernel
theorem d1_4 : decode method_3_code 4 = .ok (.iconst 1, 1) := by decide +kernel
theorem d1_5 : decode method_3_code 5 = .ok (.ishr, 1) := by decide +kernel
theorem d1_6 : decode method_3_code 6 = .ok (.iconst 1, 1) := by decide +kernel
theorem d1_7 : decode method_3_code 7 = .ok (.iand, 1) := by decide +kernel
theorem d1_8 : decode method_3_code 8 = .ok (.iadd, 1) := by decide +kernel
theorem d1_9 : decode method_3_code 9 = .ok (.iload_n 0, 1) := by decide +kernel
theorem d1_10 : decode method_3_code 10 = .ok (.iconst 2, 1) := by decide +kernel
theorem d1_11 : decode method_3_code 11 = .ok (.ishr, 1) := by decide +kernel
theorem d1_12 : decode method_3_code 12 = .ok (.iconst 1, 1) := by decide +kernel
theorem d1_13 : decode method_3_code 13 = .ok (.iand, 1) := by decide +kernel
theorem d1_14 : decode method_3_code 14 = .ok (.iadd, 1) := by decide +kernel
theorem d1_15 : decode method_3_code 15 = .ok (.iload_n 0, 1) := by decide +kernel
theorem d1_16 : decode method_3_code 16 = .ok (.iconst 3, 1) := by decide +kernel
theorem d1_17 : decode method_3_code 17 = .ok (.ishr, 1) := by decide +kernel
theorem d1_18 : decode method_3_code 18 = .ok (.iconst 1, 1) := by decide +kernel
theorem d1_19 : decode method_3_code 19 = .ok (.iand, 1) := by decide +kernel
theorem d1_20 : decode method_3_code 20 = .ok (.iadd, 1) := by decide +kernel
theorem d1_21 : decode method_3_code 21 = .ok (.istore 5, 2) := by decide +kernel
theorem d1_23 : decode method_3_code 23 = .ok (.iload 5, 2) := by decide +kernel
theorem d1_25 : decode method_3_code 25 = .ok (.newarray .int, 2) := by decide +kernel
theorem d1_27 : decode method_3_code 27 = .ok (.astore 6, 2) := by decide +kernel
theorem d1_29 : decode method_3_code 29 = .ok (.iconst 0, 1) := by decide +kernel
theorem d1_30 : decode method_3_code 30 = .ok (.istore 7, 2) := by decide +kernel
theorem d1_32 : decode method_3_code 32 = .ok (.iload_n 0, 1) := by decide +kernel
theorem d1_33 : decode method_3_code 33 = .ok (.iconst 1, 1) := by decide +kernel
theorem d1_34 : decode method_3_code 34 = .ok (.iand, 1) := by decide +kernel
theorem d1_35 : decode method_3_code 35 = .ok (.ifCond .eq 12, 3) := by decide +kernel
theorem d1_38 : decode method_3_code 38 = .ok (.aload 6, 2) := by decide +kernel
theorem d1_40 : decode method_3_code 40 = .ok (.iload 7, 2) := by decide +kernel
theorem d1_42 : decode method_3_code 42 = .ok (.iload_n 1, 1) := by decide +kernel
theorem d1_43 : decode method_3_code 43 = .ok (.iastore, 1) := by decide +kernel
theorem d1_44 : decode method_3_code 44 = .ok (.iinc 7 1, 3) := by decide +kernel
theorem d1_47 : decode method_3_code 47 = .ok (.iload_n 0, 1) := by decide +kernel
theorem d1_48 : decode method_3_code 48 = .ok (.iconst 2, 1) := by decide +kernel
theorem d1_49 : decode method_3_code 49 = .ok (.iand, 1) := by decide +kernel
theorem d1_50 : decode method_3_code 50 = .ok (.ifCond .eq 12, 3) := by decide +kernel
theorem d1_53 : decode method_3_code 53 = .ok (.aload 6, 2) := by decide +kernel
theorem d1_55 : decode method_3_code 55 = .ok (.iload 7, 2) := by decide +kernel
theorem d1_57 : decode method_3_code 57 = .ok (.iload_n 2, 1) := by decide +kernel
theorem d1_58 : decode method_3_code 58 = .ok (.iastore, 1) := by decide +kernel
theorem d1_59 : decode method_3_code 59 = .ok (.iinc 7 1, 3) := by decide +kernel
theorem d1_62 : decode method_3_code 62 = .ok (.iload_n 0, 1) := by decide +kernel
theorem d1_63 : decode method_3_code 63 = .ok (.iconst 4, 1) := by decide +kernel
theorem d1_64 : decode method_3_code 64 = .ok (.iand, 1) := by decide +kernel
theorem d1_65 : decode method_3_code 65 = .ok (.ifCond .eq 12, 3) := by decide +kernel
theorem d1_68 : decode method_3_code 68 = .ok (.aload 6, 2) := by decide +kernel
theorem d1_70 : decode method_3_code 70 = .ok (.iload 7, 2) := by decide +kernel
theorem d1_72 : decode method_3_code 72 = .ok (.iload_n 3, 1) := by decide +kernel
theorem d1_73 : decode method_3_code 73 = .ok (.iastore, 1) := by decide +kernel
theorem d1_74 : decode method_3_code 74 = .ok (.iinc 7 1, 3) := by decide +kernel
theorem d1_77 : decode method_3_code 77 = .ok (.iload_n 0, 1) := by decide +kernel
theorem d1_78 : decode method_3_code 78 = .ok (.bipush 8, 2) := by decide +kernel
theorem d1_80 : decode method_3_code 80 = .ok (.iand, 1) := by decide +kernel
theorem d1_81 : decode method_3_code 81 = .ok (.ifCond .eq 13, 3) := by decide +kernel
theorem d1_84 : decode method_3_code 84 = .ok (.aload 6, 2) := by decide +kernel
theorem d1_86 : decode method_3_code 86 = .ok (.iload 7, 2) := by decide +kernel
theorem d1_88 : decode method_3_code 88 = .ok (.iload 4, 2) := by decide +kernel
theorem d1_90 : decode method_3_code 90 = .ok (.iastore, 1) := by decide +kernel
theorem d1_91 : decode method_3_code 91 = .ok (.iinc 7 1, 3) := by decide +kernel
theorem d1_94 : decode method_3_code 94 = .ok (.aload 6, 2) := by decide +kernel
theorem d1_96 : decode method_3_code 96 = .ok (.areturn, 1) := by decide +kernel
theorem pn_1 : plainName "com/example/postil/postil/domain/ConjunctionHoldsAllPinLaw" = true := by first | (simp [plainName, overriddenIn]; done) | decide +kernel
theorem ef_1 (m : MethodId) (P0 : Int32) (P1 : Int32) (P2 : Int32) (P3 : Int32) (P4 : Int32) : entryFrame m #[(.int P0), (.int P1), (.int P2), (.int P3), (.int P4)] 8 = mkF m 0 #[.val (.int P0), .val (.int P1), .val (.int P2), .val (.int P3), .val (.int P4), .unset, .unset, .unset] [] := by first | (simp [entryFrame, mkF, argsToLocals, Value.category]; done) | rfl
def Q1 (Z : State) (P0 : Int32) (P1 : Int32) (P2 : Int32) (P3 : Int32) (P4 : Int32) (h0 : Heap) (n0 : Nat) (v : Option Value) (h : Heap) (L : List Loc) : Prop := ∃ R0 : Addr, ∃ K0 : ClassId, (v = some (.ref R0)) ∧ (Fr n0 L) ∧ (Keep h0 h []) ∧ (h0.size ≤ R0) ∧ (Exa Z h R0 "[I") ∧ (Arv Z h R0 K0 .int (own_cnt P0) ((own_sel P0 P1 P2 P3 P4).map Value.int) (.int (0 : Int32)))
set_option maxRecDepth 65536 in
set_option maxHeartbeats 40000000 in
theorem rm1 (l : Launch) (Z : State) (a0 : Array Value) (hw : ∀ d ∈ tables_1, d.before a0 Z = true) (ws : List Jvm.Cond) (P0 : Int32) (P1 : Int32) (P2 : Int32) (P3 : Int32) (P4 : Int32) (h0 : Heap) (n0 : Nat) (Z0 : n0 ≤ h0.size) (hm : own_m16 P0) :
    MetFree l (⟨"com/example/postil/postil/domain/ConjunctionHoldsAllPinLaw", "build", "(IIIII)[I"⟩ : MethodName) (head1 (Jvm.Cond.code (⟨"com/example/postil/postil/domain/ConjunctionHoldsAllPinLaw", "build", "(IIIII)[I"⟩ : MethodName) method_3_code 8 (some (.array .int)) :: ws) ({ frames := 0, cells := 1, slots := 4, locals := 0 } : Room)) (fun a U => a = #[(.int P0), (.int P1), (.int P2), (.int P3), (.int P4)] ∧ Z.Warmed39 U.vm ∧ U.heap = h0) (fun _ _ _ _ _ => True) (fun _ U o U' => ∃ v L, o = .returned v ∧ Q1 Z P0 P1 P2 P3 P4 h0 n0 v U'.heap L ∧ FrameEnd U o U' L ({ frames := 0, cells := 1, slots := 4, locals := 0 } : Room).cells ({ frames := 0, cells := 1, slots := 4, locals := 0 } : Room).slots) := by
  refine MetFree.of_bodySF (plainFor_of_name pn_1) hisR ?_
  intro p e s m args below meth c s₁ Bd hml0 hP hK
  obtain ⟨rfl, hZ, hh⟩ := hP
  have hx := Bd.exec
  have hby := Bd.bytes
  have hml : c.maxLocals = 8 := hml0
  have hown : s.vm.findClass "com/example/postil/postil/domain/ConjunctionHoldsAllPinLaw" = some m.cls := findClass_of_methodNamed Bd.named
  have hnm := (name_of_methodNamed Bd.named Bd.method).1
  have X0 : Stand p l e ({ frames := 0, cells := 1, slots := 4, locals := 0 } : Room) s m #[(.int P0), (.int P1), (.int P2), (.int P3), (.int P4)] below meth c s₁ [] 0 0 := Stand.of_body Bd
  have e0 : s₁.heap = h0 := by rw [← hh, Bd.state]; rfl
  have N0 := Fr.nil n0
  have pre0 : ∀ t, Steps p.tables e below (s₁.setTop (mkF m 0 #[.val (.int P0), .val (.int P1), .val (.int P2), .val (.int P3), .val (.int P4), .unset, .unset, .unset] [])) t → Steps p.tables e below (s₁.setTop (entryFrame m #[(.int P0), (.int P1), (.int P2), (.int P3), (.int P4)] 8)) t := fun t k => castTop (ef_1 m P0 P1 P2 P3 P4) k
  have K_0 : Keep h0 h0 [] := Keep.refl h0 _
  rcases hm with hk | hk | hk | hk | hk | hk | hk | hk | hk | hk | hk | hk | hk | hk | hk | hk
  · obtain ⟨T101, h101, k101, X101, e101, E101, A101, EX101, st101⟩ := newPE X0 hx hZ (hw _ (List.mem_of_getElem? (i := 8) rfl)) e0 (g := (mkF m 25 #[.val (.int P0), .val (.int P1), .val (.int P2), .val (.int P3), .val (.int P4), .val (.int ((((P0 &&& (1 : Int32)) + ((P0 >>> ((1 : Int32) &&& 31)) &&& (1 : Int32))) + ((P0 >>> ((2 : Int32) &&& 31)) &&& (1 : Int32))) + ((P0 >>> ((3 : Int32) &&& 31)) &&& (1 : Int32)))), .unset, .unset] [(.int ((((P0 &&& (1 : Int32)) + ((P0 >>> ((1 : Int32) &&& 31)) &&& (1 : Int32))) + ((P0 >>> ((2 : Int32) &&& 31)) &&& (1 : Int32))) + ((P0 >>> ((3 : Int32) &&& 31)) &&& (1 : Int32))))])) rfl (hb hby d1_25) rfl (by first | decide | (rw [hk]; decide)) (cap := 4) (by first | decide | (rw [hk]; decide)) (by decide) (by decide) (by decide) (ad := "[I") (by decide)
    obtain ⟨b101, q101⟩ : ∃ z, z = h0.size := ⟨_, rfl⟩
    rw [← q101] at A101 EX101 st101
    have g_b101 : n0 ≤ b101 := Nat.le_trans Z0 (Nat.le_of_eq q101.symm)
    have sz_b101 : h0.size ≤ b101 := Nat.le_trans K_0.1 (Nat.le_of_eq q101.symm)
    have Z102 : n0 ≤ h101.size := Nat.le_trans Z0 E101.1
    have K_102 : Keep h0 h101 [] := K_0.ext E101
    have V101 : Arv Z h101 b101 k101 .int ((((P0 &&& (1 : Int32)) + ((P0 >>> ((1 : Int32) &&& 31)) &&& (1 : Int32))) + ((P0 >>> ((2 : Int32) &&& 31)) &&& (1 : Int32))) + ((P0 >>> ((3 : Int32) &&& 31)) &&& (1 : Int32))) [] (.int (0 : Int32)) := (Arv.new A101 (by first | decide | (rw [hk]; decide))).pad (pad_rep [] (.int (0 : Int32)) 0)
    have pre103 : ∀ t, Steps p.tables e below (T101.setTop (mkF m 96 #[.val (.int P0), .val (.int P1), .val (.int P2), .val (.int P3), .val (.int P4), .val (.int ((((P0 &&& (1 : Int32)) + ((P0 >>> ((1 : Int32) &&& 31)) &&& (1 : Int32))) + ((P0 >>> ((2 : Int32) &&& 31)) &&& (1 : Int32))) + ((P0 >>> ((3 : Int32) &&& 31)) &&& (1 : Int32)))), .val (.ref b101), .val (.int (0 : Int32))] [(.ref b101)])) t → Steps p.tables e below (s₁.setTop (entryFrame m #[(.int P0), (.int P1), (.int P2), (.int P3), (.int P4)] 8)) t := fun t kt => pre0 t (by
        show Steps p.tables e below (s₁.setTop (mkF m 0 #[.val (.int P0), .val (.int P1), .val (.int P2), .val (.int P3), .val (.int P4), .unset, .unset, .unset] [])) _
        refine XS.iloadN X0.here hx rfl (hb hby d1_0) rfl ?_
        show Steps p.tables e below (s₁.setTop (mkF m 1 #[.val (.int P0), .val (.int P1), .val (.int P2), .val (.int P3), .val (.int P4), .unset, .unset, .unset] [(.int P0)])) _
        refine XS.iconst X0.here hx rfl (hb hby d1_1) ?_
        show Steps p.tables e below (s₁.setTop (mkF m 2 #[.val (.int P0), .val (.int P1), .val (.int P2), .val (.int P3), .val (.int P4), .unset, .unset, .unset] [(.int (1 : Int32)), (.int P0)])) _
        refine XS.iand X0.here hx rfl (hb hby d1_2) rfl ?_
        show Steps p.tables e below (s₁.setTop (mkF m 3 #[.val (.int P0), .val (.int P1), .val (.int P2), .val (.int P3), .val (.int P4), .unset, .unset, .unset] [(.int (P0 &&& (1 : Int32)))])) _
        refine XS.iloadN X0.here hx rfl (hb hby d1_3) rfl ?_
        show Steps p.tables e below (s₁.setTop (mkF m 4 #[.val (.int P0), .val (.int P1), .val (.int P2), .val (.int P3), .val (.int P4), .unset, .unset, .unset] [(.int P0), (.int (P0 &&& (1 : Int32)))])) _
        refine XS.iconst X0.here hx rfl (hb hby d1_4) ?_
        show Steps p.tables e below (s₁.setTop (mkF m 5 #[.val (.int P0), .val (.int P1), .val (.int P2), .val (.int P3), .val (.int P4), .unset, .unset, .unset] [(.int (1 : Int32)), (.int P0), (.int (P0 &&& (1 : Int32)))])) _
        refine XS.ishr X0.here hx rfl (hb hby d1_5) rfl ?_
        show Steps p.tables e below (s₁.setTop (mkF m 6 #[.val (.int P0), .val (.int P1), .val (.int P2), .val (.int P3), .val (.int P4), .unset, .unset, .unset] [(.int (P0 >>> ((1 : Int32) &&& 31))), (.int (P0 &&& (1 : Int32)))])) _
        refine XS.iconst X0.here hx rfl (hb hby d1_6) ?_
        show Steps p.tables e below (s₁.setTop (mkF m 7 #[.val (.int P0), .val (.int P1), .val (.int P2), .val (.int P3), .val (.int P4), .unset, .unset, .unset] [(.int (1 : Int32)), (.int (P0 >>> ((1 : Int32) &&& 31))), (.int (P0 &&& (1 : Int32)))])) _
        refine XS.iand X0.here hx rfl (hb hby d1_7) rfl ?_
        show Steps p.tables e below (s₁.setTop (mkF m 8 #[.val (.int P0), .val (.int P1), .val (.int P2), .val (.int P3), .val (.int P4), .unset, .unset, .unset] [(.int ((P0 >>> ((1 : Int32) &&& 31)) &&& (1 : Int32))), (.int (P0 &&& (1 : Int32)))])) _
        refine XS.iadd X0.here hx rfl (hb hby d1_8) rfl ?_
        show Steps p.tables e below (s₁.setTop (mkF m 9 #[.val (.int P0), .val (.int P1), .val (.int P2), .val (.int P3), .val (.int P4), .unset, .unset, .unset] [(.int ((P0 &&& (1 : Int32)) + ((P0 >>> ((1 : Int32) &&& 31)) &&& (1 : Int32))))])) _
        refine XS.iloadN X0.here hx rfl (hb hby d1_9) rfl ?_
        show Steps p.tables e below (s₁.setTop (mkF m 10 #[.val (.int P0), .val (.int P1), .val (.int P2), .val (.int P3), .val (.int P4), .unset, .unset, .unset] [(.int P0), (.int ((P0 &&& (1 : Int32)) + ((P0 >>> ((1 : Int32) &&& 31)) &&& (1 : Int32))))])) _
        refine XS.iconst X0.here hx rfl (hb hby d1_10) ?_
        show Steps p.tables e below (s₁.setTop (mkF m 11 #[.val (.int P0), .val (.int P1), .val (.int P2), .val (.int P3), .val (.int P4), .unset, .unset, .unset] [(.int (2 : Int32)), (.int P0), (.int ((P0 &&& (1 : Int32)) + ((P0 >>> ((1 : Int32) &&& 31)) &&& (1 : Int32))))])) _
        refine XS.ishr X0.here hx rfl (hb hby d1_11) rfl ?_
        show Steps p.tables e below (s₁.setTop (mkF m 12 #[.val (.int P0), .val (.int P1), .val (.int P2), .val (.int P3), .val (.int P4), .unset, .unset, .unset] [(.int (P0 >>> ((2 : Int32) &&& 31))), (.int ((P0 &&& (1 : Int32)) + ((P0 >>> ((1 : Int32) &&& 31)) &&& (1 : Int32))))])) _
        refine XS.iconst X0.here hx rfl (hb hby d1_12) ?_
        show Steps p.tables e below (s₁.setTop (mkF m 13 #[.val (.int P0), .val (.int P1), .val (.int P2), .val (.int P3), .val (.int P4), .unset, .unset, .unset] [(.int (1 : Int32)), (.int (P0 >>> ((2 : Int32) &&& 31))), (.int ((P0 &&& (1 : Int32)) + ((P0 >>> ((1 : Int32) &&& 31)) &&& (1 : Int32))))])) _
        refine XS.iand X0.here hx rfl (hb hby d1_13) rfl ?_
        show Steps p.tables e below (s₁.setTop (mkF m 14 #[.val (.int P0), .val (.int P1), .val (.int P2), .val (.int P3), .val (.int P4), .unset, .unset, .unset] [(.int ((P0 >>> ((2 : Int32) &&& 31)) &&& (1 : Int32))), (.int ((P0 &&& (1 : Int32)) + ((P0 >>> ((1 : Int32) &&& 31)) &&& (1 : Int32))))])) _
        refine XS.iadd X0.here hx rfl (hb hby d1_14) rfl ?_
        show Steps p.tables e below (s₁.setTop (mkF m 15 #[.val (.int P0), .val (.int P1), .val (.int P2), .val (.int P3), .val (.int P4), .unset, .unset, .unset] [(.int (((P0 &&& (1 : Int32)) + ((P0 >>> ((1 : Int32) &&& 31)) &&& (1 : Int32))) + ((P0 >>> ((2 : Int32) &&& 31)) &&& (1 : Int32))))])) _
        refine XS.iloadN X0.here hx rfl (hb hby d1_15) rfl ?_
        show Steps p.tables e below (s₁.setTop (mkF m 16 #[.val (.int P0), .val (.int P1), .val (.int P2), .val (.int P3), .val (.int P4), .unset, .unset, .unset] [(.int P0), (.int (((P0 &&& (1 : Int32)) + ((P0 >>> ((1 : Int32) &&& 31)) &&& (1 : Int32))) + ((P0 >>> ((2 : Int32) &&& 31)) &&& (1 : Int32))))])) _
        refine XS.iconst X0.here hx rfl (hb hby d1_16) ?_
        show Steps p.tables e below (s₁.setTop (mkF m 17 #[.val (.int P0), .val (.int P1), .val (.int P2), .val (.int P3), .val (.int P4), .unset, .unset, .unset] [(.int (3 : Int32)), (.int P0), (.int (((P0 &&& (1 : Int32)) + ((P0 >>> ((1 : Int32) &&& 31)) &&& (1 : Int32))) + ((P0 >>> ((2 : Int32) &&& 31)) &&& (1 : Int32))))])) _
        refine XS.ishr X0.here hx rfl (hb hby d1_17) rfl ?_
        show Steps p.tables e below (s₁.setTop (mkF m 18 #[.val (.int P0), .val (.int P1), .val (.int P2), .val (.int P3), .val (.int P4), .unset, .unset, .unset] [(.int (P0 >>> ((3 : Int32) &&& 31))), (.int (((P0 &&& (1 : Int32)) + ((P0 >>> ((1 : Int32) &&& 31)) &&& (1 : Int32))) + ((P0 >>> ((2 : Int32) &&& 31)) &&& (1 : Int32))))])) _
        refine XS.iconst X0.here hx rfl (hb hby d1_18) ?_
        show Steps p.tables e below (s₁.setTop (mkF m 19 #[.val (.int P0), .val (.int P1), .val (.int P2), .val (.int P3), .val (.int P4), .unset, .unset, .unset] [(.int (1 : Int32)), (.int (P0 >>> ((3 : Int32) &&& 31))), (.int (((P0 &&& (1 : Int32)) + ((P0 >>> ((1 : Int32) &&& 31)) &&& (1 : Int32))) + ((P0 >>> ((2 : Int32) &&& 31)) &&& (1 : Int32))))])) _
        refine XS.iand X0.here hx rfl (hb hby d1_19) rfl ?_
        show Steps p.tables e below (s₁.setTop (mkF m 20 #[.val (.int P0), .val (.int P1), .val (.int P2), .val (.int P3), .val (.int P4), .unset, .unset, .unset] [(.int ((P0 >>> ((3 : Int32) &&& 31)) &&& (1 : Int32))), (.int (((P0 &&& (1 : Int32)) + ((P0 >>> ((1 : Int32) &&& 31)) &&& (1 : Int32))) + ((P0 >>> ((2 : Int32) &&& 31)) &&& (1 : Int32))))])) _
        refine XS.iadd X0.here hx rfl (hb hby d1_20) rfl ?_
        show Steps p.tables e below (s₁.setTop (mkF m 21 #[.val (.int P0), .val (.int P1), .val (.int P2), .val (.int P3), .val (.int P4), .unset, .unset, .unset] [(.int ((((P0 &&& (1 : Int32)) + ((P0 >>> ((1 : Int32) &&& 31)) &&& (1 : Int32))) + ((P0 >>> ((2 : Int32) &&& 31)) &&& (1 : Int32))) + ((P0 >>> ((3 : Int32) &&& 31)) &&& (1 : Int32))))])) _
        refine XS.istore X0.here hx rfl (hb hby d1_21) rfl (l' := #[.val (.int P0), .val (.int P1), .val (.int P2), .val (.int P3), .val (.int P4), .val (.int ((((P0 &&& (1 : Int32)) + ((P0 >>> ((1 : Int32) &&& 31)) &&& (1 : Int32))) + ((P0 >>> ((2 : Int32) &&& 31)) &&& (1 : Int32))) + ((P0 >>> ((3 : Int32) &&& 31)) &&& (1 : Int32)))), .unset, .unset]) rfl ?_
        show Steps p.tables e below (s₁.setTop (mkF m 23 #[.val (.int P0), .val (.int P1), .val (.int P2), .val (.int P3), .val (.int P4), .val (.int ((((P0 &&& (1 : Int32)) + ((P0 >>> ((1 : Int32) &&& 31)) &&& (1 : Int32))) + ((P0 >>> ((2 : Int32) &&& 31)) &&& (1 : Int32))) + ((P0 >>> ((3 : Int32) &&& 31)) &&& (1 : Int32)))), .unset, .unset] [])) _
        refine XS.iload X0.here hx rfl (hb hby d1_23) rfl ?_
        show Steps p.tables e below (s₁.setTop (mkF m 25 #[.val (.int P0), .val (.int P1), .val (.int P2), .val (.int P3), .val (.int P4), .val (.int ((((P0 &&& (1 : Int32)) + ((P0 >>> ((1 : Int32) &&& 31)) &&& (1 : Int32))) + ((P0 >>> ((2 : Int32) &&& 31)) &&& (1 : Int32))) + ((P0 >>> ((3 : Int32) &&& 31)) &&& (1 : Int32)))), .unset, .unset] [(.int ((((P0 &&& (1 : Int32)) + ((P0 >>> ((1 : Int32) &&& 31)) &&& (1 : Int32))) + ((P0 >>> ((2 : Int32) &&& 31)) &&& (1 : Int32))) + ((P0 >>> ((3 : Int32) &&& 31)) &&& (1 : Int32))))])) _
        refine st101 _ ?_
        show Steps p.tables e below (T101.setTop (mkF m 27 #[.val (.int P0), .val (.int P1), .val (.int P2), .val (.int P3), .val (.int P4), .val (.int ((((P0 &&& (1 : Int32)) + ((P0 >>> ((1 : Int32) &&& 31)) &&& (1 : Int32))) + ((P0 >>> ((2 : Int32) &&& 31)) &&& (1 : Int32))) + ((P0 >>> ((3 : Int32) &&& 31)) &&& (1 : Int32)))), .unset, .unset] [(.ref b101)])) _
        refine XS.astore X101.here hx rfl (hb hby d1_27) rfl rfl (l' := #[.val (.int P0), .val (.int P1), .val (.int P2), .val (.int P3), .val (.int P4), .val (.int ((((P0 &&& (1 : Int32)) + ((P0 >>> ((1 : Int32) &&& 31)) &&& (1 : Int32))) + ((P0 >>> ((2 : Int32) &&& 31)) &&& (1 : Int32))) + ((P0 >>> ((3 : Int32) &&& 31)) &&& (1 : Int32)))), .val (.ref b101), .unset]) rfl ?_
        show Steps p.tables e below (T101.setTop (mkF m 29 #[.val (.int P0), .val (.int P1), .val (.int P2), .val (.int P3), .val (.int P4), .val (.int ((((P0 &&& (1 : Int32)) + ((P0 >>> ((1 : Int32) &&& 31)) &&& (1 : Int32))) + ((P0 >>> ((2 : Int32) &&& 31)) &&& (1 : Int32))) + ((P0 >>> ((3 : Int32) &&& 31)) &&& (1 : Int32)))), .val (.ref b101), .unset] [])) _
        refine XS.iconst X101.here hx rfl (hb hby d1_29) ?_
        show Steps p.tables e below (T101.setTop (mkF m 30 #[.val (.int P0), .val (.int P1), .val (.int P2), .val (.int P3), .val (.int P4), .val (.int ((((P0 &&& (1 : Int32)) + ((P0 >>> ((1 : Int32) &&& 31)) &&& (1 : Int32))) + ((P0 >>> ((2 : Int32) &&& 31)) &&& (1 : Int32))) + ((P0 >>> ((3 : Int32) &&& 31)) &&& (1 : Int32)))), .val (.ref b101), .unset] [(.int (0 : Int32))])) _
        refine XS.istore X101.here hx rfl (hb hby d1_30) rfl (l' := #[.val (.int P0), .val (.int P1), .val (.int P2), .val (.int P3), .val (.int P4), .val (.int ((((P0 &&& (1 : Int32)) + ((P0 >>> ((1 : Int32) &&& 31)) &&& (1 : Int32))) + ((P0 >>> ((2 : Int32) &&& 31)) &&& (1 : Int32))) + ((P0 >>> ((3 : Int32) &&& 31)) &&& (1 : Int32)))), .val (.ref b101), .val (.int (0 : Int32))]) rfl ?_
        show Steps p.tables e below (T101.setTop (mkF m 32 #[.val (.int P0), .val (.int P1), .val (.int P2), .val (.int P3), .val (.int P4), .val (.int ((((P0 &&& (1 : Int32)) + ((P0 >>> ((1 : Int32) &&& 31)) &&& (1 : Int32))) + ((P0 >>> ((2 : Int32) &&& 31)) &&& (1 : Int32))) + ((P0 >>> ((3 : Int32) &&& 31)) &&& (1 : Int32)))), .val (.ref b101), .val (.int (0 : Int32))] [])) _
        refine XS.iloadN X101.here hx rfl (hb hby d1_32) rfl ?_
        show Steps p.tables e below (T101.setTop (mkF m 33 #[.val (.int P0), .val (.int P1), .val (.int P2), .val (.int P3), .val (.int P4), .val (.int ((((P0 &&& (1 : Int32)) + ((P0 >>> ((1 : Int32) &&& 31)) &&& (1 : Int32))) + ((P0 >>> ((2 : Int32) &&& 31)) &&& (1 : Int32))) + ((P0 >>> ((3 : Int32) &&& 31)) &&& (1 : Int32)))), .val (.ref b101), .val (.int (0 : Int32))] [(.int P0)])) _
        refine XS.iconst X101.here hx rfl (hb hby d1_33) ?_
        show Steps p.tables e below (T101.setTop (mkF m 34 #[.val (.int P0), .val (.int P1), .val (.int P2), .val (.int P3), .val (.int P4), .val (.int ((((P0 &&& (1 : Int32)) + ((P0 >>> ((1 : Int32) &&& 31)) &&& (1 : Int32))) + ((P0 >>> ((2 : Int32) &&& 31)) &&& (1 : Int32))) + ((P0 >>> ((3 : Int32) &&& 31)) &&& (1 : Int32)))), .val (.ref b101), .val (.int (0 : Int32))] [(.int (1 : Int32)), (.int P0)])) _
        refine XS.iand X101.here hx rfl (hb hby d1_34) rfl ?_
        show Steps p.tables e below (T101.setTop (mkF m 35 #[.val (.int P0), .val (.int P1), .val (.int P2), .val (.int P3), .val (.int P4), .val (.int ((((P0 &&& (1 : Int32)) + ((P0 >>> ((1 : Int32) &&& 31)) &&& (1 : Int32))) + ((P0 >>> ((2 : Int32) &&& 31)) &&& (1 : Int32))) + ((P0 >>> ((3 : Int32) &&& 31)) &&& (1 : Int32)))), .val (.ref b101), .val (.int (0 : Int32))] [(.int (P0 &&& (1 : Int32)))])) _
        refine XS.ifYes X101.here hx rfl (pc0 := 35) (pc' := 47) rfl (hb hby d1_35) rfl ((if0 _ _).trans (teq (show (P0 &&& (1 : Int32)) = (0 : Int32) from (by first | decide | (rw [hk]; decide)))).1) (by decide) (by decide) ?_
        show Steps p.tables e below (T101.setTop (mkF m 47 #[.val (.int P0), .val (.int P1), .val (.int P2), .val (.int P3), .val (.int P4), .val (.int ((((P0 &&& (1 : Int32)) + ((P0 >>> ((1 : Int32) &&& 31)) &&& (1 : Int32))) + ((P0 >>> ((2 : Int32) &&& 31)) &&& (1 : Int32))) + ((P0 >>> ((3 : Int32) &&& 31)) &&& (1 : Int32)))), .val (.ref b101), .val (.int (0 : Int32))] [])) _
        refine XS.iloadN X101.here hx rfl (hb hby d1_47) rfl ?_
        show Steps p.tables e below (T101.setTop (mkF m 48 #[.val (.int P0), .val (.int P1), .val (.int P2), .val (.int P3), .val (.int P4), .val (.int ((((P0 &&& (1 : Int32)) + ((P0 >>> ((1 : Int32) &&& 31)) &&& (1 : Int32))) + ((P0 >>> ((2 : Int32) &&& 31)) &&& (1 : Int32))) + ((P0 >>> ((3 : Int32) &&& 31)) &&& (1 : Int32)))), .val (.ref b101), .val (.int (0 : Int32))] [(.int P0)])) _
        refine XS.iconst X101.here hx rfl (hb hby d1_48) ?_
        show Steps p.tables e below (T101.setTop (mkF m 49 #[.val (.int P0), .val (.int P1), .val (.int P2), .val (.int P3), .val (.int P4), .val (.int ((((P0 &&& (1 : Int32)) + ((P0 >>> ((1 : Int32) &&& 31)) &&& (1 : Int32))) + ((P0 >>> ((2 : Int32) &&& 31)) &&& (1 : Int32))) + ((P0 >>> ((3 : Int32) &&& 31)) &&& (1 : Int32)))), .val (.ref b101), .val (.int (0 : Int32))] [(.int (2 : Int32)), (.int P0)])) _
        refine XS.iand X101.here hx rfl (hb hby d1_49) rfl ?_
        show Steps p.tables e below (T101.setTop (mkF m 50 #[.val (.int P0), .val (.int P1), .val (.int P2), .val (.int P3), .val (.int P4), .val (.int ((((P0 &&& (1 : Int32)) + ((P0 >>> ((1 : Int32) &&& 31)) &&& (1 : Int32))) + ((P0 >>> ((2 : Int32) &&& 31)) &&& (1 : Int32))) + ((P0 >>> ((3 : Int32) &&& 31)) &&& (1 : Int32)))), .val (.ref b101), .val (.int (0 : Int32))] [(.int (P0 &&& (2 : Int32)))])) _
        refine XS.ifYes X101.here hx rfl (pc0 := 50) (pc' := 62) rfl (hb hby d1_50) rfl ((if0 _ _).trans (teq (show (P0 &&& (2 : Int32)) = (0 : Int32) from (by first | decide | (rw [hk]; decide)))).1) (by decide) (by decide) ?_
        show Steps p.tables e below (T101.setTop (mkF m 62 #[.val (.int P0), .val (.int P1), .val (.int P2), .val (.int P3), .val (.int P4), .val (.int ((((P0 &&& (1 : Int32)) + ((P0 >>> ((1 : Int32) &&& 31)) &&& (1 : Int32))) + ((P0 >>> ((2 : Int32) &&& 31)) &&& (1 : Int32))) + ((P0 >>> ((3 : Int32) &&& 31)) &&& (1 : Int32)))), .val (.ref b101), .val (.int (0 : Int32))] [])) _
        refine XS.iloadN X101.here hx rfl (hb hby d1_62) rfl ?_
        show Steps p.tables e below (T101.setTop (mkF m 63 #[.val (.int P0), .val (.int P1), .val (.int P2), .val (.int P3), .val (.int P4), .val (.int ((((P0 &&& (1 : Int32)) + ((P0 >>> ((1 : Int32) &&& 31)) &&& (1 : Int32))) + ((P0 >>> ((2 : Int32) &&& 31)) &&& (1 : Int32))) + ((P0 >>> ((3 : Int32) &&& 31)) &&& (1 : Int32)))), .val (.ref b101), .val (.int (0 : Int32))] [(.int P0)])) _
        refine XS.iconst X101.here hx rfl (hb hby d1_63) ?_
        show Steps p.tables e below (T101.setTop (mkF m 64 #[.val (.int P0), .val (.int P1), .val (.int P2), .val (.int P3), .val (.int P4), .val (.int ((((P0 &&& (1 : Int32)) + ((P0 >>> ((1 : Int32) &&& 31)) &&& (1 : Int32))) + ((P0 >>> ((2 : Int32) &&& 31)) &&& (1 : Int32))) + ((P0 >>> ((3 : Int32) &&& 31)) &&& (1 : Int32)))), .val (.ref b101), .val (.int (0 : Int32))] [(.int (4 : Int32)), (.int P0)])) _
        refine XS.iand X101.here hx rfl (hb hby d1_64) rfl ?_
        show Steps p.tables e below (T101.setTop (mkF m 65 #[.val (.int P0), .val (.int P1), .val (.int P2), .val (.int P3), .val (.int P4), .val (.int ((((P0 &&& (1 : Int32)) + ((P0 >>> ((1 : Int32) &&& 31)) &&& (1 : Int32))) + ((P0 >>> ((2 : Int32) &&& 31)) &&& (1 : Int32))) + ((P0 >>> ((3 : Int32) &&& 31)) &&& (1 : Int32)))), .val (.ref b101), .val (.int (0 : Int32))] [(.int (P0 &&& (4 : Int32)))])) _
        refine XS.ifYes X101.here hx rfl (pc0 := 65) (pc' := 77) rfl (hb hby d1_65) rfl ((if0 _ _).trans (teq (show (P0 &&& (4 : Int32)) = (0 : Int32) from (by first | decide | (rw [hk]; decide)))).1) (by decide) (by decide) ?_
        show Steps p.tables e below (T101.setTop (mkF m 77 #[.val (.int P0), .val (.int P1), .val (.int P2), .val (.int P3), .val (.int P4), .val (.int ((((P0 &&& (1 : Int32)) + ((P0 >>> ((1 : Int32) &&& 31)) &&& (1 : Int32))) + ((P0 >>> ((2 : Int32) &&& 31)) &&& (1 : Int32))) + ((P0 >>> ((3 : Int32) &&& 31)) &&& (1 : Int32)))), .val (.ref b101), .val (.int (0 : Int32))] [])) _
        refine XS.iloadN X101.here hx rfl (hb hby d1_77) rfl ?_
        show Steps p.tables e below (T101.setTop (mkF m 78 #[.val (.int P0), .val (.int P1), .val (.int P2), .val (.int P3), .val (.int P4), .val (.int ((((P0 &&& (1 : Int32)) + ((P0 >>> ((1 : Int32) &&& 31)) &&& (1 : Int32))) + ((P0 >>> ((2 : Int32) &&& 31)) &&& (1 : Int32))) + ((P0 >>> ((3 : Int32) &&& 31)) &&& (1 : Int32)))), .val (.ref b101), .val (.int (0 : Int32))] [(.int P0)])) _
        refine XS.bipush X101.here hx rfl (hb hby d1_78) ?_
        show Steps p.tables e below (T101.setTop (mkF m 80 #[.val (.int P0), .val (.int P1), .val (.int P2), .val (.int P3), .val (.int P4), .val (.int ((((P0 &&& (1 : Int32)) + ((P0 >>> ((1 : Int32) &&& 31)) &&& (1 : Int32))) + ((P0 >>> ((2 : Int32) &&& 31)) &&& (1 : Int32))) + ((P0 >>> ((3 : Int32) &&& 31)) &&& (1 : Int32)))), .val (.ref b101), .val (.int (0 : Int32))] [(.int (8 : Int32)), (.int P0)])) _
        refine XS.iand X101.here hx rfl (hb hby d1_80) rfl ?_
        show Steps p.tables e below (T101.setTop (mkF m 81 #[.val (.int P0), .val (.int P1), .val (.int P2), .val (.int P3), .val (.int P4), .val (.int ((((P0 &&& (1 : Int32)) + ((P0 >>> ((1 : Int32) &&& 31)) &&& (1 : Int32))) + ((P0 >>> ((2 : Int32) &&& 31)) &&& (1 : Int32))) + ((P0 >>> ((3 : Int32) &&& 31)) &&& (1 : Int32)))), .val (.ref b101), .val (.int (0 : Int32))] [(.int (P0 &&& (8 : Int32)))])) _
        refine XS.ifYes X101.here hx rfl (pc0 := 81) (pc' := 94) rfl (hb hby d1_81) rfl ((if0 _ _).trans (teq (show (P0 &&& (8 : Int32)) = (0 : Int32) from (by first | decide | (rw [hk]; decide)))).1) (by decide) (by decide) ?_
        show Steps p.tables e below (T101.setTop (mkF m 94 #[.val (.int P0), .val (.int P1), .val (.int P2), .val (.int P3), .val (.int P4), .val (.int ((((P0 &&& (1 : Int32)) + ((P0 >>> ((1 : Int32) &&& 31)) &&& (1 : Int32))) + ((P0 >>> ((2 : Int32) &&& 31)) &&& (1 : Int32))) + ((P0 >>> ((3 : Int32) &&& 31)) &&& (1 : Int32)))), .val (.ref b101), .val (.int (0 : Int32))] [])) _
        refine XS.aload X101.here hx rfl (hb hby d1_94) rfl rfl ?_
        exact kt)
    have hsel : (own_sel P0 P1 P2 P3 P4).map Value.int = [] := by rw [hk, own_sel0]; rfl
    obtain ⟨fs, hr, hrun, hended, hW, hsame⟩ := X101.leave (v := some (.ref b101)) (fun h => by rw [Bd.returns] at h; cases h)
    refine ⟨_, _, pre103 _ ?_, hrun, hended, _, _, rfl, ?_, ⟨_, rfl⟩, hW, hsame.mono (by decide) (by decide)⟩
    · show Steps p.tables e below (T101.setTop (mkF m 96 #[.val (.int P0), .val (.int P1), .val (.int P2), .val (.int P3), .val (.int P4), .val (.int ((((P0 &&& (1 : Int32)) + ((P0 >>> ((1 : Int32) &&& 31)) &&& (1 : Int32))) + ((P0 >>> ((2 : Int32) &&& 31)) &&& (1 : Int32))) + ((P0 >>> ((3 : Int32) &&& 31)) &&& (1 : Int32)))), .val (.ref b101), .val (.int (0 : Int32))] [(.ref b101)])) _
      exact retOut X101 hx Bd.returns rfl (Or.inr (Or.inr (Or.inr (Or.inr ⟨rfl, rfl, rfl⟩)))) (hb hby d1_96) hr
    · show Q1 Z P0 P1 P2 P3 P4 h0 n0 _ T101.heap _
      rw [e101]
      exact ⟨b101, k101, rfl, N0, K_102, sz_b101, EX101, (by rw [hsel]; exact V101)⟩
  · obtain ⟨T104, h104, k104, X104, e104, E104, A104, EX104, st104⟩ := newPE X0 hx hZ (hw _ (List.mem_of_getElem? (i := 8) rfl)) e0 (g := (mkF m 25 #[.val (.int P0), .val (.int P1), .val (.int P2), .val (.int P3), .val (.int P4), .val (.int ((((P0 &&& (1 : Int32)) + ((P0 >>> ((1 : Int32) &&& 31)) &&& (1 : Int32))) + ((P0 >>> ((2 : Int32) &&& 31)) &&& (1 : Int32))) + ((P0 >>> ((3 : Int32) &&& 31)) &&& (1 : Int32)))), .unset, .unset] [(.int ((((P0 &&& (1 : Int32)) + ((P0 >>> ((1 : Int32) &&& 31)) &&& (1 : Int32))) + ((P0 >>> ((2 : Int32) &&& 31)) &&& (1 : Int32))) + ((P0 >>> ((3 : Int32) &&& 31)) &&& (1 : Int32))))])) rfl (hb hby d1_25) rfl (by first | decide | (rw [hk]; decide)) (cap := 4) (by first | decide | (rw [hk]; decide)) (by decide) (by decide) (by decide) (ad := "[I") (by decide)
    obtain ⟨b104, q104⟩ : ∃ z, z = h0.size := ⟨_, rfl⟩
    rw [← q104] at A104 EX104 st104
    have g_b104 : n0 ≤ b104 := Nat.le_trans Z0 (Nat.le_of_eq q104.symm)
    have sz_b104 : h0.size ≤ b104 := Nat.le_trans K_0.1 (Nat.le_of_eq q104.symm)
    have Z105 : n0 ≤ h104.size := Nat.le_trans Z0 E104.1
    have K_105 : Keep h0 h104 [] := K_0.ext E104
    have V104 : Arv Z h104 b104 k104 .int ((((P0 &&& (1 : Int32)) + ((P0 >>> ((1 : Int32) &&& 31)) &&& (1 : Int32))) + ((P0 >>> ((2 : Int32) &&& 31)) &&& (1 : Int32))) + ((P0 >>> ((3 : Int32) &&& 31)) &&& (1 : Int32))) [(.int (0 : Int32))] (.int (0 : Int32)) := (Arv.new A104 (by first | decide | (rw [hk]; decide))).pad (pad_rep [] (.int (0 : Int32)) 1)
    obtain ⟨cl106, Ar106, q106, S106, N_106, H106, G106⟩ := id V104
    have hin106 : ¬ ((0 : Int32) < 0 ∨ cl106.slots.size ≤ ((0 : Int32)).toNatClampNeg) := inb_of S106 ⟨by first | decide | (rw [hk]; decide), by first | decide | (rw [hk]; decide)⟩
    obtain ⟨T107, h107, X107, e107, W107, st107⟩ := stI X104 hx hZ e104 Ar106 (j := (0 : Int32)) hin106 (g := (mkF m 43 #[.val (.int P0), .val (.int P1), .val (.int P2), .val (.int P3), .val (.int P4), .val (.int ((((P0 &&& (1 : Int32)) + ((P0 >>> ((1 : Int32) &&& 31)) &&& (1 : Int32))) + ((P0 >>> ((2 : Int32) &&& 31)) &&& (1 : Int32))) + ((P0 >>> ((3 : Int32) &&& 31)) &&& (1 : Int32)))), .val (.ref b104), .val (.int (0 : Int32))] [(.int P1), (.int (0 : Int32)), (.ref b104)])) rfl rfl (hb hby d1_43)
    have Z108 : n0 ≤ h107.size := Nat.le_trans Z105 (Nat.le_of_eq W107.size.symm)
    have K_108 : Keep h0 h107 [] := K_105.wr W107 (Or.inr sz_b104)
    have V107 : Arv Z h107 b104 k104 .int ((((P0 &&& (1 : Int32)) + ((P0 >>> ((1 : Int32) &&& 31)) &&& (1 : Int32))) + ((P0 >>> ((2 : Int32) &&& 31)) &&& (1 : Int32))) + ((P0 >>> ((3 : Int32) &&& 31)) &&& (1 : Int32))) [(.int P1)] (.int (0 : Int32)) := Arv.set Ar106 q106 S106 N_106 H106 G106 rfl W107 0 rfl (Nat.le_of_ble_eq_true rfl)
    have N107 := Fr.snoc X107 N0 g_b104
    have pre109 : ∀ t, Steps p.tables e below (T107.setTop (mkF m 96 #[.val (.int P0), .val (.int P1), .val (.int P2), .val (.int P3), .val (.int P4), .val (.int ((((P0 &&& (1 : Int32)) + ((P0 >>> ((1 : Int32) &&& 31)) &&& (1 : Int32))) + ((P0 >>> ((2 : Int32) &&& 31)) &&& (1 : Int32))) + ((P0 >>> ((3 : Int32) &&& 31)) &&& (1 : Int32)))), .val (.ref b104), .val (.int ((0 : Int32) + (1 : Int32)))] [(.ref b104)])) t → Steps p.tables e below (s₁.setTop (entryFrame m #[(.int P0), (.int P1), (.int P2), (.int P3), (.int P4)] 8)) t := fun t kt => pre0 t (by
        show Steps p.tables e below (s₁.setTop (mkF m 0 #[.val (.int P0), .val (.int P1), .val (.int P2), .val (.int P3), .val (.int P4), .unset, .unset, .unset] [])) _
        refine XS.iloadN X0.here hx rfl (hb hby d1_0) rfl ?_
        show Steps p.tables e below (s₁.setTop (mkF m 1 #[.val (.int P0), .val (.int P1), .val (.int P2), .val (.int P3), .val (.int P4), .unset, .unset, .unset] [(.int P0)])) _
        refine XS.iconst X0.here hx rfl (hb hby d1_1) ?_
        show Steps p.tables e below (s₁.setTop (mkF m 2 #[.val (.int P0), .val (.int P1), .val (.int P2), .val (.int P3), .val (.int P4), .unset, .unset, .unset] [(.int (1 : Int32)), (.int P0)])) _
        refine XS.iand X0.here hx rfl (hb hby d1_2) rfl ?_
        show Steps p.tables e below (s₁.setTop (mkF m 3 #[.val (.int P0), .val (.int P1), .val (.int P2), .val (.int P3), .val (.int P4), .unset, .unset, .unset] [(.int (P0 &&& (1 : Int32)))])) _
        refine XS.iloadN X0.here hx rfl (hb hby d1_3) rfl ?_
        show Steps p.tables e below (s₁.setTop (mkF m 4 #[.val (.int P0), .val (.int P1), .val (.int P2), .val (.int P3), .val (.int P4), .unset, .unset, .unset] [(.int P0), (.int (P0 &&& (1 : Int32)))])) _
        refine XS.iconst X0.here hx rfl (hb hby d1_4) ?_
        show Steps p.tables e below (s₁.setTop (mkF m 5 #[.val (.int P0), .val (.int P1), .val (.int P2), .val (.int P3), .val (.int P4), .unset, .unset, .unset] [(.int (1 : Int32)), (.int P0), (.int (P0 &&& (1 : Int32)))])) _
        refine XS.ishr X0.here hx rfl (hb hby d1_5) rfl ?_
        show Steps p.tables e below (s₁.setTop (mkF m 6 #[.val (.int P0), .val (.int P1), .val (.int P2), .val (.int P3), .val (.int P4), .unset, .unset, .unset] [(.int (P0 >>> ((1 : Int32) &&& 31))), (.int (P0 &&& (1 : Int32)))])) _
        refine XS.iconst X0.here hx rfl (hb hby d1_6) ?_
        show Steps p.tables e below (s₁.setTop (mkF m 7 #[.val (.int P0), .val (.int P1), .val (.int P2), .val (.int P3), .val (.int P4), .unset, .unset, .unset] [(.int (1 : Int32)), (.int (P0 >>> ((1 : Int32) &&& 31))), (.int (P0 &&& (1 : Int32)))])) _
        refine XS.iand X0.here hx rfl (hb hby d1_7) rfl ?_
        show Steps p.tables e below (s₁.setTop (mkF m 8 #[.val (.int P0), .val (.int P1), .val (.int P2), .val (.int P3), .val (.int P4), .unset, .unset, .unset] [(.int ((P0 >>> ((1 : Int32) &&& 31)) &&& (1 : Int32))), (.int (P0 &&& (1 : Int32)))])) _
        refine XS.iadd X0.here hx rfl (hb hby d1_8) rfl ?_
        show Steps p.tables e below (s₁.setTop (mkF m 9 #[.val (.int P0), .val (.int P1), .val (.int P2), .val (.int P3), .val (.int P4), .unset, .unset, .unset] [(.int ((P0 &&& (1 : Int32)) + ((P0 >>> ((1 : Int32) &&& 31)) &&& (1 : Int32))))])) _
        refine XS.iloadN X0.here hx rfl (hb hby d1_9) rfl ?_
        show Steps p.tables e below (s₁.setTop (mkF m 10 #[.val (.int P0), .val (.int P1), .val (.int P2), .val (.int P3), .val (.int P4), .unset, .unset, .unset] [(.int P0), (.int ((P0 &&& (1 : Int32)) + ((P0 >>> ((1 : Int32) &&& 31)) &&& (1 : Int32))))])) _
        refine XS.iconst X0.here hx rfl (hb hby d1_10) ?_
        show Steps p.tables e below (s₁.setTop (mkF m 11 #[.val (.int P0), .val (.int P1), .val (.int P2), .val (.int P3), .val (.int P4), .unset, .unset, .unset] [(.int (2 : Int32)), (.int P0), (.int ((P0 &&& (1 : Int32)) + ((P0 >>> ((1 : Int32) &&& 31)) &&& (1 : Int32))))])) _
        refine XS.ishr X0.here hx rfl (hb hby d1_11) rfl ?_
        show Steps p.tables e below (s₁.setTop (mkF m 12 #[.val (.int P0), .val (.int P1), .val (.int P2), .val (.int P3), .val (.int P4), .unset, .unset, .unset] [(.int (P0 >>> ((2 : Int32) &&& 31))), (.int ((P0 &&& (1 : Int32)) + ((P0 >>> ((1 : Int32) &&& 31)) &&& (1 : Int32))))])) _
        refine XS.iconst X0.here hx rfl (hb hby d1_12) ?_
        show Steps p.tables e below (s₁.setTop (mkF m 13 #[.val (.int P0), .val (.int P1), .val (.int P2), .val (.int P3), .val (.int P4), .unset, .unset, .unset] [(.int (1 : Int32)), (.int (P0 >>> ((2 : Int32) &&& 31))), (.int ((P0 &&& (1 : Int32)) + ((P0 >>> ((1 : Int32) &&& 31)) &&& (1 : Int32))))])) _
        refine XS.iand X0.here hx rfl (hb hby d1_13) rfl ?_
        show Steps p.tables e below (s₁.setTop (mkF m 14 #[.val (.int P0), .val (.int P1), .val (.int P2), .val (.int P3), .val (.int P4), .unset, .unset, .unset] [(.int ((P0 >>> ((2 : Int32) &&& 31)) &&& (1 : Int32))), (.int ((P0 &&& (1 : Int32)) + ((P0 >>> ((1 : Int32) &&& 31)) &&& (1 : Int32))))])) _
        refine XS.iadd X0.here hx rfl (hb hby d1_14) rfl ?_
        show Steps p.tables e below (s₁.setTop (mkF m 15 #[.val (.int P0), .val (.int P1), .val (.int P2), .val (.int P3), .val (.int P4), .unset, .unset, .unset] [(.int (((P0 &&& (1 : Int32)) + ((P0 >>> ((1 : Int32) &&& 31)) &&& (1 : Int32))) + ((P0 >>> ((2 : Int32) &&& 31)) &&& (1 : Int32))))])) _
        refine XS.iloadN X0.here hx rfl (hb hby d1_15) rfl ?_
        show Steps p.tables e below (s₁.setTop (mkF m 16 #[.val (.int P0), .val (.int P1), .val (.int P2), .val (.int P3), .val (.int P4), .unset, .unset, .unset] [(.int P0), (.int (((P0 &&& (1 : Int32)) + ((P0 >>> ((1 : Int32) &&& 31)) &&& (1 : Int32))) + ((P0 >>> ((2 : Int32) &&& 31)) &&& (1 : Int32))))])) _
        refine XS.iconst X0.here hx rfl (hb hby d1_16) ?_
        show Steps p.tables e below (s₁.setTop (mkF m 17 #[.val (.int P0), .val (.int P1), .val (.int P2), .val (.int P3), .val (.int P4), .unset, .unset, .unset] [(.int (3 : Int32)), (.int P0), (.int (((P0 &&& (1 : Int32)) + ((P0 >>> ((1 : Int32) &&& 31)) &&& (1 : Int32))) + ((P0 >>> ((2 : Int32) &&& 31)) &&& (1 : Int32))))])) _
        refine XS.ishr X0.here hx rfl (hb hby d1_17) rfl ?_
        show Steps p.tables e below (s₁.setTop (mkF m 18 #[.val (.int P0), .val (.int P1), .val (.int P2), .val (.int P3), .val (.int P4), .unset, .unset, .unset] [(.int (P0 >>> ((3 : Int32) &&& 31))), (.int (((P0 &&& (1 : Int32)) + ((P0 >>> ((1 : Int32) &&& 31)) &&& (1 : Int32))) + ((P0 >>> ((2 : Int32) &&& 31)) &&& (1 : Int32))))])) _
        refine XS.iconst X0.here hx rfl (hb hby d1_18) ?_
        show Steps p.tables e below (s₁.setTop (mkF m 19 #[.val (.int P0), .val (.int P1), .val (.int P2), .val (.int P3), .val (.int P4), .unset, .unset, .unset] [(.int (1 : Int32)), (.int (P0 >>> ((3 : Int32) &&& 31))), (.int (((P0 &&& (1 : Int32)) + ((P0 >>> ((1 : Int32) &&& 31)) &&& (1 : Int32))) + ((P0 >>> ((2 : Int32) &&& 31)) &&& (1 : Int32))))])) _
        refine XS.iand X0.here hx rfl (hb hby d1_19) rfl ?_
        show Steps p.tables e below (s₁.setTop (mkF m 20 #[.val (.int P0), .val (.int P1), .val (.int P2), .val (.int P3), .val (.int P4), .unset, .unset, .unset] [(.int ((P0 >>> ((3 : Int32) &&& 31)) &&& (1 : Int32))), (.int (((P0 &&& (1 : Int32)) + ((P0 >>> ((1 : Int32) &&& 31)) &&& (1 : Int32))) + ((P0 >>> ((2 : Int32) &&& 31)) &&& (1 : Int32))))])) _
        refine XS.iadd X0.here hx rfl (hb hby d1_20) rfl ?_
        show Steps p.tables e below (s₁.setTop (mkF m 21 #[.val (.int P0), .val (.int P1), .val (.int P2), .val (.int P3), .val (.int P4), .unset, .unset, .unset] [(.int ((((P0 &&& (1 : Int32)) + ((P0 >>> ((1 : Int32) &&& 31)) &&& (1 : Int32))) + ((P0 >>> ((2 : Int32) &&& 31)) &&& (1 : Int32))) + ((P0 >>> ((3 : Int32) &&& 31)) &&& (1 : Int32))))])) _
        refine XS.istore X0.here hx rfl (hb hby d1_21) rfl (l' := #[.val (.int P0), .val (.int P1), .val (.int P2), .val (.int P3), .val (.int P4), .val (.int ((((P0 &&& (1 : Int32)) + ((P0 >>> ((1 : Int32) &&& 31)) &&& (1 : Int32))) + ((P0 >>> ((2 : Int32) &&& 31)) &&& (1 : Int32))) + ((P0 >>> ((3 : Int32) &&& 31)) &&& (1 : Int32)))), .unset, .unset]) rfl ?_
        show Steps p.tables e below (s₁.setTop (mkF m 23 #[.val (.int P0), .val (.int P1), .val (.int P2), .val (.int P3), .val (.int P4), .val (.int ((((P0 &&& (1 : Int32)) + ((P0 >>> ((1 : Int32) &&& 31)) &&& (1 : Int32))) + ((P0 >>> ((2 : Int32) &&& 31)) &&& (1 : Int32))) + ((P0 >>> ((3 : Int32) &&& 31)) &&& (1 : Int32)))), .unset, .unset] [])) _
        refine XS.iload X0.here hx rfl (hb hby d1_23) rfl ?_
        show Steps p.tables e below (s₁.setTop (mkF m 25 #[.val (.int P0), .val (.int P1), .val (.int P2), .val (.int P3), .val (.int P4), .val (.int ((((P0 &&& (1 : Int32)) + ((P0 >>> ((1 : Int32) &&& 31)) &&& (1 : Int32))) + ((P0 >>> ((2 : Int32) &&& 31)) &&& (1 : Int32))) + ((P0 >>> ((3 : Int32) &&& 31)) &&& (1 : Int32)))), .unset, .unset] [(.int ((((P0 &&& (1 : Int32)) + ((P0 >>> ((1 : Int32) &&& 31)) &&& (1 : Int32))) + ((P0 >>> ((2 : Int32) &&& 31)) &&& (1 : Int32))) + ((P0 >>> ((3 : Int32) &&& 31)) &&& (1 : Int32))))])) _
        refine st104 _ ?_
        show Steps p.tables e below (T104.setTop (mkF m 27 #[.val (.int P0), .val (.int P1), .val (.int P2), .val (.int P3), .val (.int P4), .val (.int ((((P0 &&& (1 : Int32)) + ((P0 >>> ((1 : Int32) &&& 31)) &&& (1 : Int32))) + ((P0 >>> ((2 : Int32) &&& 31)) &&& (1 : Int32))) + ((P0 >>> ((3 : Int32) &&& 31)) &&& (1 : Int32)))), .unset, .unset] [(.ref b104)])) _
        refine XS.astore X104.here hx rfl (hb hby d1_27) rfl rfl (l' := #[.val (.int P0), .val (.int P1), .val (.int P2), .val (.int P3), .val (.int P4), .val (.int ((((P0 &&& (1 : Int32)) + ((P0 >>> ((1 : Int32) &&& 31)) &&& (1 : Int32))) + ((P0 >>> ((2 : Int32) &&& 31)) &&& (1 : Int32))) + ((P0 >>> ((3 : Int32) &&& 31)) &&& (1 : Int32)))), .val (.ref b104), .unset]) rfl ?_
        show Steps p.tables e below (T104.setTop (mkF m 29 #[.val (.int P0), .val (.int P1), .val (.int P2), .val (.int P3), .val (.int P4), .val (.int ((((P0 &&& (1 : Int32)) + ((P0 >>> ((1 : Int32) &&& 31)) &&& (1 : Int32))) + ((P0 >>> ((2 : Int32) &&& 31)) &&& (1 : Int32))) + ((P0 >>> ((3 : Int32) &&& 31)) &&& (1 : Int32)))), .val (.ref b104), .unset] [])) _
        refine XS.iconst X104.here hx rfl (hb hby d1_29) ?_
        show Steps p.tables e below (T104.setTop (mkF m 30 #[.val (.int P0), .val (.int P1), .val (.int P2), .val (.int P3), .val (.int P4), .val (.int ((((P0 &&& (1 : Int32)) + ((P0 >>> ((1 : Int32) &&& 31)) &&& (1 : Int32))) + ((P0 >>> ((2 : Int32) &&& 31)) &&& (1 : Int32))) + ((P0 >>> ((3 : Int32) &&& 31)) &&& (1 : Int32)))), .val (.ref b104), .unset] [(.int (0 : Int32))])) _
        refine XS.istore X104.here hx rfl (hb hby d1_30) rfl (l' := #[.val (.int P0), .val (.int P1), .val (.int P2), .val (.int P3), .val (.int P4), .val (.int ((((P0 &&& (1 : Int32)) + ((P0 >>> ((1 : Int32) &&& 31)) &&& (1 : Int32))) + ((P0 >>> ((2 : Int32) &&& 31)) &&& (1 : Int32))) + ((P0 >>> ((3 : Int32) &&& 31)) &&& (1 : Int32)))), .val (.ref b104), .val (.int (0 : Int32))]) rfl ?_
        show Steps p.tables e below (T104.setTop (mkF m 32 #[.val (.int P0), .val (.int P1), .val (.int P2), .val (.int P3), .val (.int P4), .val (.int ((((P0 &&& (1 : Int32)) + ((P0 >>> ((1 : Int32) &&& 31)) &&& (1 : Int32))) + ((P0 >>> ((2 : Int32) &&& 31)) &&& (1 : Int32))) + ((P0 >>> ((3 : Int32) &&& 31)) &&& (1 : Int32)))), .val (.ref b104), .val (.int (0 : Int32))] [])) _
        refine XS.iloadN X104.here hx rfl (hb hby d1_32) rfl ?_
        show Steps p.tables e below (T104.setTop (mkF m 33 #[.val (.int P0), .val (.int P1), .val (.int P2), .val (.int P3), .val (.int P4), .val (.int ((((P0 &&& (1 : Int32)) + ((P0 >>> ((1 : Int32) &&& 31)) &&& (1 : Int32))) + ((P0 >>> ((2 : Int32) &&& 31)) &&& (1 : Int32))) + ((P0 >>> ((3 : Int32) &&& 31)) &&& (1 : Int32)))), .val (.ref b104), .val (.int (0 : Int32))] [(.int P0)])) _
        refine XS.iconst X104.here hx rfl (hb hby d1_33) ?_
        show Steps p.tables e below (T104.setTop (mkF m 34 #[.val (.int P0), .val (.int P1), .val (.int P2), .val (.int P3), .val (.int P4), .val (.int ((((P0 &&& (1 : Int32)) + ((P0 >>> ((1 : Int32) &&& 31)) &&& (1 : Int32))) + ((P0 >>> ((2 : Int32) &&& 31)) &&& (1 : Int32))) + ((P0 >>> ((3 : Int32) &&& 31)) &&& (1 : Int32)))), .val (.ref b104), .val (.int (0 : Int32))] [(.int (1 : Int32)), (.int P0)])) _
        refine XS.iand X104.here hx rfl (hb hby d1_34) rfl ?_
        show Steps p.tables e below (T104.setTop (mkF m 35 #[.val (.int P0), .val (.int P1), .val (.int P2), .val (.int P3), .val (.int P4), .val (.int ((((P0 &&& (1 : Int32)) + ((P0 >>> ((1 : Int32) &&& 31)) &&& (1 : Int32))) + ((P0 >>> ((2 : Int32) &&& 31)) &&& (1 : Int32))) + ((P0 >>> ((3 : Int32) &&& 31)) &&& (1 : Int32)))), .val (.ref b104), .val (.int (0 : Int32))] [(.int (P0 &&& (1 : Int32)))])) _
        refine XS.ifNo X104.here hx rfl (hb hby d1_35) rfl ((if0 _ _).trans (feq (show ¬ ((P0 &&& (1 : Int32)) = (0 : Int32)) from (by first | decide | (rw [hk]; decide)))).1) ?_
        show Steps p.tables e below (T104.setTop (mkF m 38 #[.val (.int P0), .val (.int P1), .val (.int P2), .val (.int P3), .val (.int P4), .val (.int ((((P0 &&& (1 : Int32)) + ((P0 >>> ((1 : Int32) &&& 31)) &&& (1 : Int32))) + ((P0 >>> ((2 : Int32) &&& 31)) &&& (1 : Int32))) + ((P0 >>> ((3 : Int32) &&& 31)) &&& (1 : Int32)))), .val (.ref b104), .val (.int (0 : Int32))] [])) _
        refine XS.aload X104.here hx rfl (hb hby d1_38) rfl rfl ?_
        show Steps p.tables e below (T104.setTop (mkF m 40 #[.val (.int P0), .val (.int P1), .val (.int P2), .val (.int P3), .val (.int P4), .val (.int ((((P0 &&& (1 : Int32)) + ((P0 >>> ((1 : Int32) &&& 31)) &&& (1 : Int32))) + ((P0 >>> ((2 : Int32) &&& 31)) &&& (1 : Int32))) + ((P0 >>> ((3 : Int32) &&& 31)) &&& (1 : Int32)))), .val (.ref b104), .val (.int (0 : Int32))] [(.ref b104)])) _
        refine XS.iload X104.here hx rfl (hb hby d1_40) rfl ?_
        show Steps p.tables e below (T104.setTop (mkF m 42 #[.val (.int P0), .val (.int P1), .val (.int P2), .val (.int P3), .val (.int P4), .val (.int ((((P0 &&& (1 : Int32)) + ((P0 >>> ((1 : Int32) &&& 31)) &&& (1 : Int32))) + ((P0 >>> ((2 : Int32) &&& 31)) &&& (1 : Int32))) + ((P0 >>> ((3 : Int32) &&& 31)) &&& (1 : Int32)))), .val (.ref b104), .val (.int (0 : Int32))] [(.int (0 : Int32)), (.ref b104)])) _
        refine XS.iloadN X104.here hx rfl (hb hby d1_42) rfl ?_
        show Steps p.tables e below (T104.setTop (mkF m 43 #[.val (.int P0), .val (.int P1), .val (.int P2), .val (.int P3), .val (.int P4), .val (.int ((((P0 &&& (1 : Int32)) + ((P0 >>> ((1 : Int32) &&& 31)) &&& (1 : Int32))) + ((P0 >>> ((2 : Int32) &&& 31)) &&& (1 : Int32))) + ((P0 >>> ((3 : Int32) &&& 31)) &&& (1 : Int32)))), .val (.ref b104), .val (.int (0 : Int32))] [(.int P1), (.int (0 : Int32)), (.ref b104)])) _
        refine st107 _ ?_
        show Steps p.tables e below (T107.setTop (mkF m 44 #[.val (.int P0), .val (.int P1), .val (.int P2), .val (.int P3), .val (.int P4), .val (.int ((((P0 &&& (1 : Int32)) + ((P0 >>> ((1 : Int32) &&& 31)) &&& (1 : Int32))) + ((P0 >>> ((2 : Int32) &&& 31)) &&& (1 : Int32))) + ((P0 >>> ((3 : Int32) &&& 31)) &&& (1 : Int32)))), .val (.ref b104), .val (.int (0 : Int32))] [])) _
        refine XS.iinc X107.here hx rfl (hb hby d1_44) rfl (l' := #[.val (.int P0), .val (.int P1), .val (.int P2), .val (.int P3), .val (.int P4), .val (.int ((((P0 &&& (1 : Int32)) + ((P0 >>> ((1 : Int32) &&& 31)) &&& (1 : Int32))) + ((P0 >>> ((2 : Int32) &&& 31)) &&& (1 : Int32))) + ((P0 >>> ((3 : Int32) &&& 31)) &&& (1 : Int32)))), .val (.ref b104), .val (.int ((0 : Int32) + (1 : Int32)))]) rfl ?_
        show Steps p.tables e below (T107.setTop (mkF m 47 #[.val (.int P0), .val (.int P1), .val (.int P2), .val (.int P3), .val (.int P4), .val (.int ((((P0 &&& (1 : Int32)) + ((P0 >>> ((1 : Int32) &&& 31)) &&& (1 : Int32))) + ((P0 >>> ((2 : Int32) &&& 31)) &&& (1 : Int32))) + ((P0 >>> ((3 : Int32) &&& 31)) &&& (1 : Int32)))), .val (.ref b104), .val (.int ((0 : Int32) + (1 : Int32)))] [])) _
        refine XS.iloadN X107.here hx rfl (hb hby d1_47) rfl ?_
        show Steps p.tables e below (T107.setTop (mkF m 48 #[.val (.int P0), .val (.int P1), .val (.int P2), .val (.int P3), .val (.int P4), .val (.int ((((P0 &&& (1 : Int32)) + ((P0 >>> ((1 : Int32) &&& 31)) &&& (1 : Int32))) + ((P0 >>> ((2 : Int32) &&& 31)) &&& (1 : Int32))) + ((P0 >>> ((3 : Int32) &&& 31)) &&& (1 : Int32)))), .val (.ref b104), .val (.int ((0 : Int32) + (1 : Int32)))] [(.int P0)])) _
        refine XS.iconst X107.here hx rfl (hb hby d1_48) ?_
        show Steps p.tables e below (T107.setTop (mkF m 49 #[.val (.int P0), .val (.int P1), .val (.int P2), .val (.int P3), .val (.int P4), .val (.int ((((P0 &&& (1 : Int32)) + ((P0 >>> ((1 : Int32) &&& 31)) &&& (1 : Int32))) + ((P0 >>> ((2 : Int32) &&& 31)) &&& (1 : Int32))) + ((P0 >>> ((3 : Int32) &&& 31)) &&& (1 : Int32)))), .val (.ref b104), .val (.int ((0 : Int32) + (1 : Int32)))] [(.int (2 : Int32)), (.int P0)])) _
        refine XS.iand X107.here hx rfl (hb hby d1_49) rfl ?_
        show Steps p.tables e below (T107.setTop (mkF m 50 #[.val (.int P0), .val (.int P1), .val (.int P2), .val (.int P3), .val (.int P4), .val (.int ((((P0 &&& (1 : Int32)) + ((P0 >>> ((1 : Int32) &&& 31)) &&& (1 : Int32))) + ((P0 >>> ((2 : Int32) &&& 31)) &&& (1 : Int32))) + ((P0 >>> ((3 : Int32) &&& 31)) &&& (1 : Int32)))), .val (.ref b104), .val (.int ((0 : Int32) + (1 : Int32)))] [(.int (P0 &&& (2 : Int32)))])) _
        refine XS.ifYes X107.here hx rfl (pc0 := 50) (pc' := 62) rfl (hb hby d1_50) rfl ((if0 _ _).trans (teq (show (P0 &&& (2 : Int32)) = (0 : Int32) from (by first | decide | (rw [hk]; decide)))).1) (by decide) (by decide) ?_
        show Steps p.tables e below (T107.setTop (mkF m 62 #[.val (.int P0), .val (.int P1), .val (.int P2), .val (.int P3), .val (.int P4), .val (.int ((((P0 &&& (1 : Int32)) + ((P0 >>> ((1 : Int32) &&& 31)) &&& (1 : Int32))) + ((P0 >>> ((2 : Int32) &&& 31)) &&& (1 : Int32))) + ((P0 >>> ((3 : Int32) &&& 31)) &&& (1 : Int32)))), .val (.ref b104), .val (.int ((0 : Int32) + (1 : Int32)))] [])) _
        refine XS.iloadN X107.here hx rfl (hb hby d1_62) rfl ?_
        show Steps p.tables e below (T107.setTop (mkF m 63 #[.val (.int P0), .val (.int P1), .val (.int P2), .val (.int P3), .val (.int P4), .val (.int ((((P0 &&& (1 : Int32)) + ((P0 >>> ((1 : Int32) &&& 31)) &&& (1 : Int32))) + ((P0 >>> ((2 : Int32) &&& 31)) &&& (1 : Int32))) + ((P0 >>> ((3 : Int32) &&& 31)) &&& (1 : Int32)))), .val (.ref b104), .val (.int ((0 : Int32) + (1 : Int32)))] [(.int P0)])) _
        refine XS.iconst X107.here hx rfl (hb hby d1_63) ?_
        show Steps p.tables e below (T107.setTop (mkF m 64 #[.val (.int P0), .val (.int P1), .val (.int P2), .val (.int P3), .val (.int P4), .val (.int ((((P0 &&& (1 : Int32)) + ((P0 >>> ((1 : Int32) &&& 31)) &&& (1 : Int32))) + ((P0 >>> ((2 : Int32) &&& 31)) &&& (1 : Int32))) + ((P0 >>> ((3 : Int32) &&& 31)) &&& (1 : Int32)))), .val (.ref b104), .val (.int ((0 : Int32) + (1 : Int32)))] [(.int (4 : Int32)), (.int P0)])) _
        refine XS.iand X107.here hx rfl (hb hby d1_64) rfl ?_
        show Steps p.tables e below (T107.setTop (mkF m 65 #[.val (.int P0), .val (.int P1), .val (.int P2), .val (.int P3), .val (.int P4), .val (.int ((((P0 &&& (1 : Int32)) + ((P0 >>> ((1 : Int32) &&& 31)) &&& (1 : Int32))) + ((P0 >>> ((2 : Int32) &&& 31)) &&& (1 : Int32))) + ((P0 >>> ((3 : Int32) &&& 31)) &&& (1 : Int32)))), .val (.ref b104), .val (.int ((0 : Int32) + (1 : Int32)))] [(.int (P0 &&& (4 : Int32)))])) _
        refine XS.ifYes X107.here hx rfl (pc0 := 65) (pc' := 77) rfl (hb hby d1_65) rfl ((if0 _ _).trans (teq (show (P0 &&& (4 : Int32)) = (0 : Int32) from (by first | decide | (rw [hk]; decide)))).1) (by decide) (by decide) ?_
        show Steps p.tables e below (T107.setTop (mkF m 77 #[.val (.int P0), .val (.int P1), .val (.int P2), .val (.int P3), .val (.int P4), .val (.int ((((P0 &&& (1 : Int32)) + ((P0 >>> ((1 : Int32) &&& 31)) &&& (1 : Int32))) + ((P0 >>> ((2 : Int32) &&& 31)) &&& (1 : Int32))) + ((P0 >>> ((3 : Int32) &&& 31)) &&& (1 : Int32)))), .val (.ref b104), .val (.int ((0 : Int32) + (1 : Int32)))] [])) _
        refine XS.iloadN X107.here hx rfl (hb hby d1_77) rfl ?_
        show Steps p.tables e below (T107.setTop (mkF m 78 #[.val (.int P0), .val (.int P1), .val (.int P2), .val (.int P3), .val (.int P4), .val (.int ((((P0 &&& (1 : Int32)) + ((P0 >>> ((1 : Int32) &&& 31)) &&& (1 : Int32))) + ((P0 >>> ((2 : Int32) &&& 31)) &&& (1 : Int32))) + ((P0 >>> ((3 : Int32) &&& 31)) &&& (1 : Int32)))), .val (.ref b104), .val (.int ((0 : Int32) + (1 : Int32)))] [(.int P0)])) _
        refine XS.bipush X107.here hx rfl (hb hby d1_78) ?_
        show Steps p.tables e below (T107.setTop (mkF m 80 #[.val (.int P0), .val (.int P1), .val (.int P2), .val (.int P3), .val (.int P4), .val (.int ((((P0 &&& (1 : Int32)) + ((P0 >>> ((1 : Int32) &&& 31)) &&& (1 : Int32))) + ((P0 >>> ((2 : Int32) &&& 31)) &&& (1 : Int32))) + ((P0 >>> ((3 : Int32) &&& 31)) &&& (1 : Int32)))), .val (.ref b104), .val (.int ((0 : Int32) + (1 : Int32)))] [(.int (8 : Int32)), (.int P0)])) _
        refine XS.iand X107.here hx rfl (hb hby d1_80) rfl ?_
        show Steps p.tables e below (T107.setTop (mkF m 81 #[.val (.int P0), .val (.int P1), .val (.int P2), .val (.int P3), .val (.int P4), .val (.int ((((P0 &&& (1 : Int32)) + ((P0 >>> ((1 : Int32) &&& 31)) &&& (1 : Int32))) + ((P0 >>> ((2 : Int32) &&& 31)) &&& (1 : Int32))) + ((P0 >>> ((3 : Int32) &&& 31)) &&& (1 : Int32)))), .val (.ref b104), .val (.int ((0 : Int32) + (1 : Int32)))] [(.int (P0 &&& (8 : Int32)))])) _
        refine XS.ifYes X107.here hx rfl (pc0 := 81) (pc' := 94) rfl (hb hby d1_81) rfl ((if0 _ _).trans (teq (show (P0 &&& (8 : Int32)) = (0 : Int32) from (by first | decide | (rw [hk]; decide)))).1) (by decide) (by decide) ?_
        show Steps p.tables e below (T107.setTop (mkF m 94 #[.val (.int P0), .val (.int P1), .val (.int P2), .val (.int P3), .val (.int P4), .val (.int ((((P0 &&& (1 : Int32)) + ((P0 >>> ((1 : Int32) &&& 31)) &&& (1 : Int32))) + ((P0 >>> ((2 : Int32) &&& 31)) &&& (1 : Int32))) + ((P0 >>> ((3 : Int32) &&& 31)) &&& (1 : Int32)))), .val (.ref b104), .val (.int ((0 : Int32) + (1 : Int32)))] [])) _
        refine XS.aload X107.here hx rfl (hb hby d1_94) rfl rfl ?_
        exact kt)
    have hsel : (own_sel P0 P1 P2 P3 P4).map Value.int = [(.int P1)] := by rw [hk, own_sel1]; rfl
    have c110 : Exa Z h107 b104 "[I" := (EX104.wr W107)
    obtain ⟨fs, hr, hrun, hended, hW, hsame⟩ := X107.leave (v := some (.ref b104)) (fun h => by rw [Bd.returns] at h; cases h)
    refine ⟨_, _, pre109 _ ?_, hrun, hended, _, _, rfl, ?_, ⟨_, rfl⟩, hW, hsame.mono (by decide) (by decide)⟩
    · show Steps p.tables e below (T107.setTop (mkF m 96 #[.val (.int P0), .val (.int P1), .val (.int P2), .val (.int P3), .val (.int P4), .val (.int ((((P0 &&& (1 : Int32)) + ((P0 >>> ((1 : Int32) &&& 31)) &&& (1 : Int32))) + ((P0 >>> ((2 : Int32) &&& 31)) &&& (1 : Int32))) + ((P0 >>> ((3 : Int32) &&& 31)) &&& (1 : Int32)))), .val (.ref b104), .val (.int ((0 : Int32) + (1 : Int32)))] [(.ref b104)])) _
      exact retOut X107 hx Bd.returns rfl (Or.inr (Or.inr (Or.inr (Or.inr ⟨rfl, rfl, rfl⟩)))) (hb hby d1_96) hr
    · show Q1 Z P0 P1 P2 P3 P4 h0 n0 _ T107.heap _
      rw [e107]
      exact ⟨b104, k104, rfl, N107, K_108, sz_b104, c110, (by rw [hsel]; exact V107)⟩
  · obtain ⟨T111, h111, k111, X111, e111, E111, A111, EX111, st111⟩ := newPE X0 hx hZ (hw _ (List.mem_of_getElem? (i := 8) rfl)) e0 (g := (mkF m 25 #[.val (.int P0), .val (.int P1), .val (.int P2), .val (.int P3), .val (.int P4), .val (.int ((((P0 &&& (1 : Int32)) + ((P0 >>> ((1 : Int32) &&& 31)) &&& (1 : Int32))) + ((P0 >>> ((2 : Int32) &&& 31)) &&& (1 : Int32))) + ((P0 >>> ((3 : Int32) &&& 31)) &&& (1 : Int32)))), .unset, .unset] [(.int ((((P0 &&& (1 : Int32)) + ((P0 >>> ((1 : Int32) &&& 31)) &&& (1 : Int32))) + ((P0 >>> ((2 : Int32) &&& 31)) &&& (1 : Int32))) + ((P0 >>> ((3 : Int32) &&& 31)) &&& (1 : Int32))))])) rfl (hb hby d1_25) rfl (by first | decide | (rw [hk]; decide)) (cap := 4) (by first | decide | (rw [hk]; decide)) (by decide) (by decide) (by decide) (ad := "[I") (by decide)
    obtain ⟨b111, q111⟩ : ∃ z, z = h0.size := ⟨_, rfl⟩
    rw [← q111] at A111 EX111 st111
    have g_b111 : n0 ≤ b111 := Nat.le_trans Z0 (Nat.le_of_eq q111.symm)
    have sz_b111 : h0.size ≤ b111 := Nat.le_trans K_0.1 (Nat.le_of_eq q111.symm)
    have Z112 : n0 ≤ h111.size := Nat.le_trans Z0 E111.1
    have K_112 : Keep h0 h111 [] := K_0.ext E111
    have V111 : Arv Z h111 b111 k111 .int ((((P0 &&& (1 : Int32)) + ((P0 >>> ((1 : Int32) &&& 31)) &&& (1 : Int32))) + ((P0 >>> ((2 : Int32) &&& 31)) &&& (1 : Int32))) + ((P0 >>> ((3 : Int32) &&& 31)) &&& (1 : Int32))) [(.int (0 : Int32))] (.int (0 : Int32)) := (Arv.new A111 (by first | decide | (rw [hk]; decide))).pad (pad_rep [] (.int (0 : Int32)) 1)
    obtain ⟨cl113, Ar113, q113, S113, N_113, H113, G113⟩ := id V111
    have hin113 : ¬ ((0 : Int32) < 0 ∨ cl113.slots.size ≤ ((0 : Int32)).toNatClampNeg) := inb_of S113 ⟨by first | decide | (rw [hk]; decide), by first | decide | (rw [hk]; decide)⟩
    obtain ⟨T114, h114, X114, e114, W114, st114⟩ := stI X111 hx hZ e111 Ar113 (j := (0 : Int32)) hin113 (g := (mkF m 58 #[.val (.int P0), .val (.int P1), .val (.int P2), .val (.int P3), .val (.int P4), .val (.int ((((P0 &&& (1 : Int32)) + ((P0 >>> ((1 : Int32) &&& 31)) &&& (1 : Int32))) + ((P0 >>> ((2 : Int32) &&& 31)) &&& (1 : Int32))) + ((P0 >>> ((3 : Int32) &&& 31)) &&& (1 : Int32)))), .val (.ref b111), .val (.int (0 : Int32))] [(.int P2), (.int (0 : Int32)), (.ref b111)])) rfl rfl (hb hby d1_58)
    have Z115 : n0 ≤ h114.size := Nat.le_trans Z112 (Nat.le_of_eq W114.size.symm)
    have K_115 : Keep h0 h114 [] := K_112.wr W114 (Or.inr sz_b111)
    have V114 : Arv Z h114 b111 k111 .int ((((P0 &&& (1 : Int32)) + ((P0 >>> ((1 : Int32) &&& 31)) &&& (1 : Int32))) + ((P0 >>> ((2 : Int32) &&& 31)) &&& (1 : Int32))) + ((P0 >>> ((3 : Int32) &&& 31)) &&& (1 : Int32))) [(.int P2)] (.int (0 : Int32)) := Arv.set Ar113 q113 S113 N_113 H113 G113 rfl W114 0 rfl (Nat.le_of_ble_eq_true rfl)
    have N114 := Fr.snoc X114 N0 g_b111
    have pre116 : ∀ t, Steps p.tables e below (T114.setTop (mkF m 96 #[.val (.int P0), .val (.int P1), .val (.int P2), .val (.int P3), .val (.int P4), .val (.int ((((P0 &&& (1 : Int32)) + ((P0 >>> ((1 : Int32) &&& 31)) &&& (1 : Int32))) + ((P0 >>> ((2 : Int32) &&& 31)) &&& (1 : Int32))) + ((P0 >>> ((3 : Int32) &&& 31)) &&& (1 : Int32)))), .val (.ref b111), .val (.int ((0 : Int32) + (1 : Int32)))] [(.ref b111)])) t → Steps p.tables e below (s₁.setTop (entryFrame m #[(.int P0), (.int P1), (.int P2), (.int P3), (.int P4)] 8)) t := fun t kt => pre0 t (by
        show Steps p.tables e below (s₁.setTop (mkF m 0 #[.val (.int P0), .val (.int P1), .val (.int P2), .val (.int P3), .val (.int P4), .unset, .unset, .unset] [])) _
        refine XS.iloadN X0.here hx rfl (hb hby d1_0) rfl ?_
        show Steps p.tables e below (s₁.setTop (mkF m 1 #[.val (.int P0), .val (.int P1), .val (.int P2), .val (.int P3), .val (.int P4), .unset, .unset, .unset] [(.int P0)])) _
        refine XS.iconst X0.here hx rfl (hb hby d1_1) ?_
        show Steps p.tables e below (s₁.setTop (mkF m 2 #[.val (.int P0), .val (.int P1), .val (.int P2), .val (.int P3), .val (.int P4), .unset, .unset, .unset] [(.int (1 : Int32)), (.int P0)])) _
        refine XS.iand X0.here hx rfl (hb hby d1_2) rfl ?_
        show Steps p.tables e below (s₁.setTop (mkF m 3 #[.val (.int P0), .val (.int P1), .val (.int P2), .val (.int P3), .val (.int P4), .unset, .unset, .unset] [(.int (P0 &&& (1 : Int32)))])) _
        refine XS.iloadN X0.here hx rfl (hb hby d1_3) rfl ?_
        show Steps p.tables e below (s₁.setTop (mkF m 4 #[.val (.int P0), .val (.int P1), .val (.int P2), .val (.int P3), .val (.int P4), .unset, .unset, .unset] [(.int P0), (.int (P0 &&& (1 : Int32)))])) _
        refine XS.iconst X0.here hx rfl (hb hby d1_4) ?_
        show Steps p.tables e below (s₁.setTop (mkF m 5 #[.val (.int P0), .val (.int P1), .val (.int P2), .val (.int P3), .val (.int P4), .unset, .unset, .unset] [(.int (1 : Int32)), (.int P0), (.int (P0 &&& (1 : Int32)))])) _
        refine XS.ishr X0.here hx rfl (hb hby d1_5) rfl ?_
        show Steps p.tables e below (s₁.setTop (mkF m 6 #[.val (.int P0), .val (.int P1), .val (.int P2), .val (.int P3), .val (.int P4), .unset, .unset, .unset] [(.int (P0 >>> ((1 : Int32) &&& 31))), (.int (P0 &&& (1 : Int32)))])) _
        refine XS.iconst X0.here hx rfl (hb hby d1_6) ?_
        show Steps p.tables e below (s₁.setTop (mkF m 7 #[.val (.int P0), .val (.int P1), .val (.int P2), .val (.int P3), .val (.int P4), .unset, .unset, .unset] [(.int (1 : Int32)), (.int (P0 >>> ((1 : Int32) &&& 31))), (.int (P0 &&& (1 : Int32)))])) _
        refine XS.iand X0.here hx rfl (hb hby d1_7) rfl ?_
        show Steps p.tables e below (s₁.setTop (mkF m 8 #[.val (.int P0), .val (.int P1), .val (.int P2), .val (.int P3), .val (.int P4), .unset, .unset, .unset] [(.int ((P0 >>> ((1 : Int32) &&& 31)) &&& (1 : Int32))), (.int (P0 &&& (1 : Int32)))])) _
        refine XS.iadd X0.here hx rfl (hb hby d1_8) rfl ?_
        show Steps p.tables e below (s₁.setTop (mkF m 9 #[.val (.int P0), .val (.int P1), .val (.int P2), .val (.int P3), .val (.int P4), .unset, .unset, .unset] [(.int ((P0 &&& (1 : Int32)) + ((P0 >>> ((1 : Int32) &&& 31)) &&& (1 : Int32))))])) _
        refine XS.iloadN X0.here hx rfl (hb hby d1_9) rfl ?_
        show Steps p.tables e below (s₁.setTop (mkF m 10 #[.val (.int P0), .val (.int P1), .val (.int P2), .val (.int P3), .val (.int P4), .unset, .unset, .unset] [(.int P0), (.int ((P0 &&& (1 : Int32)) + ((P0 >>> ((1 : Int32) &&& 31)) &&& (1 : Int32))))])) _
        refine XS.iconst X0.here hx rfl (hb hby d1_10) ?_
        show Steps p.tables e below (s₁.setTop (mkF m 11 #[.val (.int P0), .val (.int P1), .val (.int P2), .val (.int P3), .val (.int P4), .unset, .unset, .unset] [(.int (2 : Int32)), (.int P0), (.int ((P0 &&& (1 : Int32)) + ((P0 >>> ((1 : Int32) &&& 31)) &&& (1 : Int32))))])) _
        refine XS.ishr X0.here hx rfl (hb hby d1_11) rfl ?_
        show Steps p.tables e below (s₁.setTop (mkF m 12 #[.val (.int P0), .val (.int P1), .val (.int P2), .val (.int P3), .val (.int P4), .unset, .unset, .unset] [(.int (P0 >>> ((2 : Int32) &&& 31))), (.int ((P0 &&& (1 : Int32)) + ((P0 >>> ((1 : Int32) &&& 31)) &&& (1 : Int32))))])) _
        refine XS.iconst X0.here hx rfl (hb hby d1_12) ?_
        show Steps p.tables e below (s₁.setTop (mkF m 13 #[.val (.int P0), .val (.int P1), .val (.int P2), .val (.int P3), .val (.int P4), .unset, .unset, .unset] [(.int (1 : Int32)), (.int (P0 >>> ((2 : Int32) &&& 31))), (.int ((P0 &&& (1 : Int32)) + ((P0 >>> ((1 : Int32) &&& 31)) &&& (1 : Int32))))])) _
        refine XS.iand X0.here hx rfl (hb hby d1_13) rfl ?_
        show Steps p.tables e below (s₁.setTop (mkF m 14 #[.val (.int P0), .val (.int P1), .val (.int P2), .val (.int P3), .val (.int P4), .unset, .unset, .unset] [(.int ((P0 >>> ((2 : Int32) &&& 31)) &&& (1 : Int32))), (.int ((P0 &&& (1 : Int32)) + ((P0 >>> ((1 : Int32) &&& 31)) &&& (1 : Int32))))])) _
        refine XS.iadd X0.here hx rfl (hb hby d1_14) rfl ?_
        show Steps p.tables e below (s₁.setTop (mkF m 15 #[.val (.int P0), .val (.int P1), .val (.int P2), .val (.int P3), .val (.int P4), .unset, .unset, .unset] [(.int (((P0 &&& (1 : Int32)) + ((P0 >>> ((1 : Int32) &&& 31)) &&& (1 : Int32))) + ((P0 >>> ((2 : Int32) &&& 31)) &&& (1 : Int32))))])) _
        refine XS.iloadN X0.here hx rfl (hb hby d1_15) rfl ?_
        show Steps p.tables e below (s₁.setTop (mkF m 16 #[.val (.int P0), .val (.int P1), .val (.int P2), .val (.int P3), .val (.int P4), .unset, .unset, .unset] [(.int P0), (.int (((P0 &&& (1 : Int32)) + ((P0 >>> ((1 : Int32) &&& 31)) &&& (1 : Int32))) + ((P0 >>> ((2 : Int32) &&& 31)) &&& (1 : Int32))))])) _
        refine XS.iconst X0.here hx rfl (hb hby d1_16) ?_
        show Steps p.tables e below (s₁.setTop (mkF m 17 #[.val (.int P0), .val (.int P1), .val (.int P2), .val (.int P3), .val (.int P4), .unset, .unset, .unset] [(.int (3 : Int32)), (.int P0), (.int (((P0 &&& (1 : Int32)) + ((P0 >>> ((1 : Int32) &&& 31)) &&& (1 : Int32))) + ((P0 >>> ((2 : Int32) &&& 31)) &&& (1 : Int32))))])) _
        refine XS.ishr X0.here hx rfl (hb hby d1_17) rfl ?_
        show Steps p.tables e below (s₁.setTop (mkF m 18 #[.val (.int P0), .val (.int P1), .val (.int P2), .val (.int P3), .val (.int P4), .unset, .unset, .unset] [(.int (P0 >>> ((3 : Int32) &&& 31))), (.int (((P0 &&& (1 : Int32)) + ((P0 >>> ((1 : Int32) &&& 31)) &&& (1 : Int32))) + ((P0 >>> ((2 : Int32) &&& 31)) &&& (1 : Int32))))])) _
        refine XS.iconst X0.here hx rfl (hb hby d1_18) ?_
        show Steps p.tables e below (s₁.setTop (mkF m 19 #[.val (.int P0), .val (.int P1), .val (.int P2), .val (.int P3), .val (.int P4), .unset, .unset, .unset] [(.int (1 : Int32)), (.int (P0 >>> ((3 : Int32) &&& 31))), (.int (((P0 &&& (1 : Int32)) + ((P0 >>> ((1 : Int32) &&& 31)) &&& (1 : Int32))) + ((P0 >>> ((2 : Int32) &&& 31)) &&& (1 : Int32))))])) _
        refine XS.iand X0.here hx rfl (hb hby d1_19) rfl ?_
        show Steps p.tables e below (s₁.setTop (mkF m 20 #[.val (.int P0), .val (.int P1), .val (.int P2), .val (.int P3), .val (.int P4), .unset, .unset, .unset] [(.int ((P0 >>> ((3 : Int32) &&& 31)) &&& (1 : Int32))), (.int (((P0 &&& (1 : Int32)) + ((P0 >>> ((1 : Int32) &&& 31)) &&& (1 : Int32))) + ((P0 >>> ((2 : Int32) &&& 31)) &&& (1 : Int32))))])) _
        refine XS.iadd X0.here hx rfl (hb hby d1_20) rfl ?_
        show Steps p.tables e below (s₁.setTop (mkF m 21 #[.val (.int P0), .val (.int P1), .val (.int P2), .val (.int P3), .val (.int P4), .unset, .unset, .unset] [(.int ((((P0 &&& (1 : Int32)) + ((P0 >>> ((1 : Int32) &&& 31)) &&& (1 : Int32))) + ((P0 >>> ((2 : Int32) &&& 31)) &&& (1 : Int32))) + ((P0 >>> ((3 : Int32) &&& 31)) &&& (1 : Int32))))])) _
        refine XS.istore X0.here hx rfl (hb hby d1_21) rfl (l' := #[.val (.int P0), .val (.int P1), .val (.int P2), .val (.int P3), .val (.int P4), .val (.int ((((P0 &&& (1 : Int32)) + ((P0 >>> ((1 : Int32) &&& 31)) &&& (1 : Int32))) + ((P0 >>> ((2 : Int32) &&& 31)) &&& (1 : Int32))) + ((P0 >>> ((3 : Int32) &&& 31)) &&& (1 : Int32)))), .unset, .unset]) rfl ?_
        show Steps p.tables e below (s₁.setTop (mkF m 23 #[.val (.int P0), .val (.int P1), .val (.int P2), .val (.int P3), .val (.int P4), .val (.int ((((P0 &&& (1 : Int32)) + ((P0 >>> ((1 : Int32) &&& 31)) &&& (1 : Int32))) + ((P0 >>> ((2 : Int32) &&& 31)) &&& (1 : Int32))) + ((P0 >>> ((3 : Int32) &&& 31)) &&& (1 : Int32)))), .unset, .unset] [])) _
        refine XS.iload X0.here hx rfl (hb hby d1_23) rfl ?_
        show Steps p.tables e below (s₁.setTop (mkF m 25 #[.val (.int P0), .val (.int P1), .val (.int P2), .val (.int P3), .val (.int P4), .val (.int ((((P0 &&& (1 : Int32)) + ((P0 >>> ((1 : Int32) &&& 31)) &&& (1 : Int32))) + ((P0 >>> ((2 : Int32) &&& 31)) &&& (1 : Int32))) + ((P0 >>> ((3 : Int32) &&& 31)) &&& (1 : Int32)))), .unset, .unset] [(.int ((((P0 &&& (1 : Int32)) + ((P0 >>> ((1 : Int32) &&& 31)) &&& (1 : Int32))) + ((P0 >>> ((2 : Int32) &&& 31)) &&& (1 : Int32))) + ((P0 >>> ((3 : Int32) &&& 31)) &&& (1 : Int32))))])) _
        refine st111 _ ?_
        show Steps p.tables e below (T111.setTop (mkF m 27 #[.val (.int P0), .val (.int P1), .val (.int P2), .val (.int P3), .val (.int P4), .val (.int ((((P0 &&& (1 : Int32)) + ((P0 >>> ((1 : Int32) &&& 31)) &&& (1 : Int32))) + ((P0 >>> ((2 : Int32) &&& 31)) &&& (1 : Int32))) + ((P0 >>> ((3 : Int32) &&& 31)) &&& (1 : Int32)))), .unset, .unset] [(.ref b111)])) _
        refine XS.astore X111.here hx rfl (hb hby d1_27) rfl rfl (l' := #[.val (.int P0), .val (.int P1), .val (.int P2), .val (.int P3), .val (.int P4), .val (.int ((((P0 &&& (1 : Int32)) + ((P0 >>> ((1 : Int32) &&& 31)) &&& (1 : Int32))) + ((P0 >>> ((2 : Int32) &&& 31)) &&& (1 : Int32))) + ((P0 >>> ((3 : Int32) &&& 31)) &&& (1 : Int32)))), .val (.ref b111), .unset]) rfl ?_
        show Steps p.tables e below (T111.setTop (mkF m 29 #[.val (.int P0), .val (.int P1), .val (.int P2), .val (.int P3), .val (.int P4), .val (.int ((((P0 &&& (1 : Int32)) + ((P0 >>> ((1 : Int32) &&& 31)) &&& (1 : Int32))) + ((P0 >>> ((2 : Int32) &&& 31)) &&& (1 : Int32))) + ((P0 >>> ((3 : Int32) &&& 31)) &&& (1 : Int32)))), .val (.ref b111), .unset] [])) _
        refine XS.iconst X111.here hx rfl (hb hby d1_29) ?_
        show Steps p.tables e below (T111.setTop (mkF m 30 #[.val (.int P0), .val (.int P1), .val (.int P2), .val (.int P3), .val (.int P4), .val (.int ((((P0 &&& (1 : Int32)) + ((P0 >>> ((1 : Int32) &&& 31)) &&& (1 : Int32))) + ((P0 >>> ((2 : Int32) &&& 31)) &&& (1 : Int32))) + ((P0 >>> ((3 : Int32) &&& 31)) &&& (1 : Int32)))), .val (.ref b111), .unset] [(.int (0 : Int32))])) _
        refine XS.istore X111.here hx rfl (hb hby d1_30) rfl (l' := #[.val (.int P0), .val (.int P1), .val (.int P2), .val (.int P3), .val (.int P4), .val (.int ((((P0 &&& (1 : Int32)) + ((P0 >>> ((1 : Int32) &&& 31)) &&& (1 : Int32))) + ((P0 >>> ((2 : Int32) &&& 31)) &&& (1 : Int32))) + ((P0 >>> ((3 : Int32) &&& 31)) &&& (1 : Int32)))), .val (.ref b111), .val (.int (0 : Int32))]) rfl ?_
        show Steps p.tables e below (T111.setTop (mkF m 32 #[.val (.int P0), .val (.int P1), .val (.int P2), .val (.int P3), .val (.int P4), .val (.int ((((P0 &&& (1 : Int32)) + ((P0 >>> ((1 : Int32) &&& 31)) &&& (1 : Int32))) + ((P0 >>> ((2 : Int32) &&& 31)) &&& (1 : Int32))) + ((P0 >>> ((3 : Int32) &&& 31)) &&& (1 : Int32)))), .val (.ref b111), .val (.int (0 : Int32))] [])) _
        refine XS.iloadN X111.here hx rfl (hb hby d1_32) rfl ?_
        show Steps p.tables e below (T111.setTop (mkF m 33 #[.val (.int P0), .val (.int P1), .val (.int P2), .val (.int P3), .val (.int P4), .val (.int ((((P0 &&& (1 : Int32)) + ((P0 >>> ((1 : Int32) &&& 31)) &&& (1 : Int32))) + ((P0 >>> ((2 : Int32) &&& 31)) &&& (1 : Int32))) + ((P0 >>> ((3 : Int32) &&& 31)) &&& (1 : Int32)))), .val (.ref b111), .val (.int (0 : Int32))] [(.int P0)])) _
        refine XS.iconst X111.here hx rfl (hb hby d1_33) ?_
        show Steps p.tables e below (T111.setTop (mkF m 34 #[.val (.int P0), .val (.int P1), .val (.int P2), .val (.int P3), .val (.int P4), .val (.int ((((P0 &&& (1 : Int32)) + ((P0 >>> ((1 : Int32) &&& 31)) &&& (1 : Int32))) + ((P0 >>> ((2 : Int32) &&& 31)) &&& (1 : Int32))) + ((P0 >>> ((3 : Int32) &&& 31)) &&& (1 : Int32)))), .val (.ref b111), .val (.int (0 : Int32))] [(.int (1 : Int32)), (.int P0)])) _
        refine XS.iand X111.here hx rfl (hb hby d1_34) rfl ?_
        show Steps p.tables e below (T111.setTop (mkF m 35 #[.val (.int P0), .val (.int P1), .val (.int P2), .val (.int P3), .val (.int P4), .val (.int ((((P0 &&& (1 : Int32)) + ((P0 >>> ((1 : Int32) &&& 31)) &&& (1 : Int32))) + ((P0 >>> ((2 : Int32) &&& 31)) &&& (1 : Int32))) + ((P0 >>> ((3 : Int32) &&& 31)) &&& (1 : Int32)))), .val (.ref b111), .val (.int (0 : Int32))] [(.int (P0 &&& (1 : Int32)))])) _
        refine XS.ifYes X111.here hx rfl (pc0 := 35) (pc' := 47) rfl (hb hby d1_35) rfl ((if0 _ _).trans (teq (show (P0 &&& (1 : Int32)) = (0 : Int32) from (by first | decide | (rw [hk]; decide)))).1) (by decide) (by decide) ?_
        show Steps p.tables e below (T111.setTop (mkF m 47 #[.val (.int P0), .val (.int P1), .val (.int P2), .val (.int P3), .val (.int P4), .val (.int ((((P0 &&& (1 : Int32)) + ((P0 >>> ((1 : Int32) &&& 31)) &&& (1 : Int32))) + ((P0 >>> ((2 : Int32) &&& 31)) &&& (1 : Int32))) + ((P0 >>> ((3 : Int32) &&& 31)) &&& (1 : Int32)))), .val (.ref b111), .val (.int (0 : Int32))] [])) _
        refine XS.iloadN X111.here hx rfl (hb hby d1_47) rfl ?_
        show Steps p.tables e below (T111.setTop (mkF m 48 #[.val (.int P0), .val (.int P1), .val (.int P2), .val (.int P3), .val (.int P4), .val (.int ((((P0 &&& (1 : Int32)) + ((P0 >>> ((1 : Int32) &&& 31)) &&& (1 : Int32))) + ((P0 >>> ((2 : Int32) &&& 31)) &&& (1 : Int32))) + ((P0 >>> ((3 : Int32) &&& 31)) &&& (1 : Int32)))), .val (.ref b111), .val (.int (0 : Int32))] [(.int P0)])) _
        refine XS.iconst X111.here hx rfl (hb hby d1_48) ?_
        show Steps p.tables e below (T111.setTop (mkF m 49 #[.val (.int P0), .val (.int P1), .val (.int P2), .val (.int P3), .val (.int P4), .val (.int ((((P0 &&& (1 : Int32)) + ((P0 >>> ((1 : Int32) &&& 31)) &&& (1 : Int32))) + ((P0 >>> ((2 : Int32) &&& 31)) &&& (1 : Int32))) + ((P0 >>> ((3 : Int32) &&& 31)) &&& (1 : Int32)))), .val (.ref b111), .val (.int (0 : Int32))] [(.int (2 : Int32)), (.int P0)])) _
        refine XS.iand X111.here hx rfl (hb hby d1_49) rfl ?_
        show Steps p.tables e below (T111.setTop (mkF m 50 #[.val (.int P0), .val (.int P1), .val (.int P2), .val (.int P3), .val (.int P4), .val (.int ((((P0 &&& (1 : Int32)) + ((P0 >>> ((1 : Int32) &&& 31)) &&& (1 : Int32))) + ((P0 >>> ((2 : Int32) &&& 31)) &&& (1 : Int32))) + ((P0 >>> ((3 : Int32) &&& 31)) &&& (1 : Int32)))), .val (.ref b111), .val (.int (0 : Int32))] [(.int (P0 &&& (2 : Int32)))])) _
        refine XS.ifNo X111.here hx rfl (hb hby d1_50) rfl ((if0 _ _).trans (feq (show ¬ ((P0 &&& (2 : Int32)) = (0 : Int32)) from (by first | decide | (rw [hk]; decide)))).1) ?_
        show Steps p.tables e below (T111.setTop (mkF m 53 #[.val (.int P0), .val (.int P1), .val (.int P2), .val (.int P3), .val (.int P4), .val (.int ((((P0 &&& (1 : Int32)) + ((P0 >>> ((1 : Int32) &&& 31)) &&& (1 : Int32))) + ((P0 >>> ((2 : Int32) &&& 31)) &&& (1 : Int32))) + ((P0 >>> ((3 : Int32) &&& 31)) &&& (1 : Int32)))), .val (.ref b111), .val (.int (0 : Int32))] [])) _
        refine XS.aload X111.here hx rfl (hb hby d1_53) rfl rfl ?_
        show Steps p.tables e below (T111.setTop (mkF m 55 #[.val (.int P0), .val (.int P1), .val (.int P2), .val (.int P3), .val (.int P4), .val (.int ((((P0 &&& (1 : Int32)) + ((P0 >>> ((1 : Int32) &&& 31)) &&& (1 : Int32))) + ((P0 >>> ((2 : Int32) &&& 31)) &&& (1 : Int32))) + ((P0 >>> ((3 : Int32) &&& 31)) &&& (1 : Int32)))), .val (.ref b111), .val (.int (0 : Int32))] [(.ref b111)])) _
        refine XS.iload X111.here hx rfl (hb hby d1_55) rfl ?_
        show Steps p.tables e below (T111.setTop (mkF m 57 #[.val (.int P0), .val (.int P1), .val (.int P2), .val (.int P3), .val (.int P4), .val (.int ((((P0 &&& (1 : Int32)) + ((P0 >>> ((1 : Int32) &&& 31)) &&& (1 : Int32))) + ((P0 >>> ((2 : Int32) &&& 31)) &&& (1 : Int32))) + ((P0 >>> ((3 : Int32) &&& 31)) &&& (1 : Int32)))), .val (.ref b111), .val (.int (0 : Int32))] [(.int (0 : Int32)), (.ref b111)])) _
        refine XS.iloadN X111.here hx rfl (hb hby d1_57) rfl ?_
        show Steps p.tables e below (T111.setTop (mkF m 58 #[.val (.int P0), .val (.int P1), .val (.int P2), .val (.int P3), .val (.int P4), .val (.int ((((P0 &&& (1 : Int32)) + ((P0 >>> ((1 : Int32) &&& 31)) &&& (1 : Int32))) + ((P0 >>> ((2 : Int32) &&& 31)) &&& (1 : Int32))) + ((P0 >>> ((3 : Int32) &&& 31)) &&& (1 : Int32)))), .val (.ref b111), .val (.int (0 : Int32))] [(.int P2), (.int (0 : Int32)), (.ref b111)])) _
        refine st114 _ ?_
        show Steps p.tables e below (T114.setTop (mkF m 59 #[.val (.int P0), .val (.int P1), .val (.int P2), .val (.int P3), .val (.int P4), .val (.int ((((P0 &&& (1 : Int32)) + ((P0 >>> ((1 : Int32) &&& 31)) &&& (1 : Int32))) + ((P0 >>> ((2 : Int32) &&& 31)) &&& (1 : Int32))) + ((P0 >>> ((3 : Int32) &&& 31)) &&& (1 : Int32)))), .val (.ref b111), .val (.int (0 : Int32))] [])) _
        refine XS.iinc X114.here hx rfl (hb hby d1_59) rfl (l' := #[.val (.int P0), .val (.int P1), .val (.int P2), .val (.int P3), .val (.int P4), .val (.int ((((P0 &&& (1 : Int32)) + ((P0 >>> ((1 : Int32) &&& 31)) &&& (1 : Int32))) + ((P0 >>> ((2 : Int32) &&& 31)) &&& (1 : Int32))) + ((P0 >>> ((3 : Int32) &&& 31)) &&& (1 : Int32)))), .val (.ref b111), .val (.int ((0 : Int32) + (1 : Int32)))]) rfl ?_
        show Steps p.tables e below (T114.setTop (mkF m 62 #[.val (.int P0), .val (.int P1), .val (.int P2), .val (.int P3), .val (.int P4), .val (.int ((((P0 &&& (1 : Int32)) + ((P0 >>> ((1 : Int32) &&& 31)) &&& (1 : Int32))) + ((P0 >>> ((2 : Int32) &&& 31)) &&& (1 : Int32))) + ((P0 >>> ((3 : Int32) &&& 31)) &&& (1 : Int32)))), .val (.ref b111), .val (.int ((0 : Int32) + (1 : Int32)))] [])) _
        refine XS.iloadN X114.here hx rfl (hb hby d1_62) rfl ?_
        show Steps p.tables e below (T114.setTop (mkF m 63 #[.val (.int P0), .val (.int P1), .val (.int P2), .val (.int P3), .val (.int P4), .val (.int ((((P0 &&& (1 : Int32)) + ((P0 >>> ((1 : Int32) &&& 31)) &&& (1 : Int32))) + ((P0 >>> ((2 : Int32) &&& 31)) &&& (1 : Int32))) + ((P0 >>> ((3 : Int32) &&& 31)) &&& (1 : Int32)))), .val (.ref b111), .val (.int ((0 : Int32) + (1 : Int32)))] [(.int P0)])) _
        refine XS.iconst X114.here hx rfl (hb hby d1_63) ?_
        show Steps p.tables e below (T114.setTop (mkF m 64 #[.val (.int P0), .val (.int P1), .val (.int P2), .val (.int P3), .val (.int P4), .val (.int ((((P0 &&& (1 : Int32)) + ((P0 >>> ((1 : Int32) &&& 31)) &&& (1 : Int32))) + ((P0 >>> ((2 : Int32) &&& 31)) &&& (1 : Int32))) + ((P0 >>> ((3 : Int32) &&& 31)) &&& (1 : Int32)))), .val (.ref b111), .val (.int ((0 : Int32) + (1 : Int32)))] [(.int (4 : Int32)), (.int P0)])) _
        refine XS.iand X114.here hx rfl (hb hby d1_64) rfl ?_
        show Steps p.tables e below (T114.setTop (mkF m 65 #[.val (.int P0), .val (.int P1), .val (.int P2), .val (.int P3), .val (.int P4), .val (.int ((((P0 &&& (1 : Int32)) + ((P0 >>> ((1 : Int32) &&& 31)) &&& (1 : Int32))) + ((P0 >>> ((2 : Int32) &&& 31)) &&& (1 : Int32))) + ((P0 >>> ((3 : Int32) &&& 31)) &&& (1 : Int32)))), .val (.ref b111), .val (.int ((0 : Int32) + (1 : Int32)))] [(.int (P0 &&& (4 : Int32)))])) _
        refine XS.ifYes X114.here hx rfl (pc0 := 65) (pc' := 77) rfl (hb hby d1_65) rfl ((if0 _ _).trans (teq (show (P0 &&& (4 : Int32)) = (0 : Int32) from (by first | decide | (rw [hk]; decide)))).1) (by decide) (by decide) ?_
        show Steps p.tables e below (T114.setTop (mkF m 77 #[.val (.int P0), .val (.int P1), .val (.int P2), .val (.int P3), .val (.int P4), .val (.int ((((P0 &&& (1 : Int32)) + ((P0 >>> ((1 : Int32) &&& 31)) &&& (1 : Int32))) + ((P0 >>> ((2 : Int32) &&& 31)) &&& (1 : Int32))) + ((P0 >>> ((3 : Int32) &&& 31)) &&& (1 : Int32)))), .val (.ref b111), .val (.int ((0 : Int32) + (1 : Int32)))] [])) _
        refine XS.iloadN X114.here hx rfl (hb hby d1_77) rfl ?_
        show Steps p.tables e below (T114.setTop (mkF m 78 #[.val (.int P0), .val (.int P1), .val (.int P2), .val (.int P3), .val (.int P4), .val (.int ((((P0 &&& (1 : Int32)) + ((P0 >>> ((1 : Int32) &&& 31)) &&& (1 : Int32))) + ((P0 >>> ((2 : Int32) &&& 31)) &&& (1 : Int32))) + ((P0 >>> ((3 : Int32) &&& 31)) &&& (1 : Int32)))), .val (.ref b111), .val (.int ((0 : Int32) + (1 : Int32)))] [(.int P0)])) _
        refine XS.bipush X114.here hx rfl (hb hby d1_78) ?_
        show Steps p.tables e below (T114.setTop (mkF m 80 #[.val (.int P0), .val (.int P1), .val (.int P2), .val (.int P3), .val (.int P4), .val (.int ((((P0 &&& (1 : Int32)) + ((P0 >>> ((1 : Int32) &&& 31)) &&& (1 : Int32))) + ((P0 >>> ((2 : Int32) &&& 31)) &&& (1 : Int32))) + ((P0 >>> ((3 : Int32) &&& 31)) &&& (1 : Int32)))), .val (.ref b111), .val (.int ((0 : Int32) + (1 : Int32)))] [(.int (8 : Int32)), (.int P0)])) _
        refine XS.iand X114.here hx rfl (hb hby d1_80) rfl ?_
        show Steps p.tables e below (T114.setTop (mkF m 81 #[.val (.int P0), .val (.int P1), .val (.int P2), .val (.int P3), .val (.int P4), .val (.int ((((P0 &&& (1 : Int32)) + ((P0 >>> ((1 : Int32) &&& 31)) &&& (1 : Int32))) + ((P0 >>> ((2 : Int32) &&& 31)) &&& (1 : Int32))) + ((P0 >>> ((3 : Int32) &&& 31)) &&& (1 : Int32)))), .val (.ref b111), .val (.int ((0 : Int32) + (1 : Int32)))] [(.int (P0 &&& (8 : Int32)))])) _
        refine XS.ifYes X114.here hx rfl (pc0 := 81) (pc' := 94) rfl (hb hby d1_81) rfl ((if0 _ _).trans (teq (show (P0 &&& (8 : Int32)) = (0 : Int32) from (by first | decide | (rw [hk]; decide)))).1) (by decide) (by decide) ?_
        show Steps p.tables e below (T114.setTop (mkF m 94 #[.val (.int P0), .val (.int P1), .val (.int P2), .val (.int P3), .val (.int P4), .val (.int ((((P0 &&& (1 : Int32)) + ((P0 >>> ((1 : Int32) &&& 31)) &&& (1 : Int32))) + ((P0 >>> ((2 : Int32) &&& 31)) &&& (1 : Int32))) + ((P0 >>> ((3 : Int32) &&& 31)) &&& (1 : Int32)))), .val (.ref b111), .val (.int ((0 : Int32) + (1 : Int32)))] [])) _
        refine XS.aload X114.here hx rfl (hb hby d1_94) rfl rfl ?_
        exact kt)
    have hsel : (own_sel P0 P1 P2 P3 P4).map Value.int = [(.int P2)] := by rw [hk, own_sel2]; rfl
    have c117 : Exa Z h114 b111 "[I" := (EX111.wr W114)
    obtain ⟨fs, hr, hrun, hended, hW, hsame⟩ := X114.leave (v := some (.ref b111)) (fun h => by rw [Bd.returns] at h; cases h)
    refine ⟨_, _, pre116 _ ?_, hrun, hended, _, _, rfl, ?_, ⟨_, rfl⟩, hW, hsame.mono (by decide) (by decide)⟩
    · show Steps p.tables e below (T114.setTop (mkF m 96 #[.val (.int P0), .val (.int P1), .val (.int P2), .val (.int P3), .val (.int P4), .val (.int ((((P0 &&& (1 : Int32)) + ((P0 >>> ((1 : Int32) &&& 31)) &&& (1 : Int32))) + ((P0 >>> ((2 : Int32) &&& 31)) &&& (1 : Int32))) + ((P0 >>> ((3 : Int32) &&& 31)) &&& (1 : Int32)))), .val (.ref b111), .val (.int ((0 : Int32) + (1 : Int32)))] [(.ref b111)])) _
      exact retOut X114 hx Bd.returns rfl (Or.inr (Or.inr (Or.inr (Or.inr ⟨rfl, rfl, rfl⟩)))) (hb hby d1_96) hr
    · show Q1 Z P0 P1 P2 P3 P4 h0 n0 _ T114.heap _
      rw [e114]
      exact ⟨b111, k111, rfl, N114, K_115, sz_b111, c117, (by rw [hsel]; exact V114)⟩
  · obtain ⟨T118, h118, k118, X118, e118, E118, A118, EX118, st118⟩ := newPE X0 hx hZ (hw _ (List.mem_of_getElem? (i := 8) rfl)) e0 (g := (mkF m 25 #[.val (.int P0), .val (.int P1), .val (.int P2), .val (.int P3), .val (.int P4), .val (.int ((((P0 &&& (1 : Int32)) + ((P0 >>> ((1 : Int32) &&& 31)) &&& (1 : Int32))) + ((P0 >>> ((2 : Int32) &&& 31)) &&& (1 : Int32))) + ((P0 >>> ((3 : Int32) &&& 31)) &&& (1 : Int32)))), .unset, .unset] [(.int ((((P0 &&& (1 : Int32)) + ((P0 >>> ((1 : Int32) &&& 31)) &&& (1 : Int32))) + ((P0 >>> ((2 : Int32) &&& 31)) &&& (1 : Int32))) + ((P0 >>> ((3 : Int32) &&& 31)) &&& (1 : Int32))))])) rfl (hb hby d1_25) rfl (by first | decide | (rw [hk]; decide)) (cap := 4) (by first | decide | (rw [hk]; decide)) (by decide) (by decide) (by decide) (ad := "[I") (by decide)
    obtain ⟨b118, q118⟩ : ∃ z, z = h0.size := ⟨_, rfl⟩
    rw [← q118] at A118 EX118 st118
    have g_b118 : n0 ≤ b118 := Nat.le_trans Z0 (Nat.le_of_eq q118.symm)
    have sz_b118 : h0.size ≤ b118 := Nat.le_trans K_0.1 (Nat.le_of_eq q118.symm)
    have Z119 : n0 ≤ h118.size := Nat.le_trans Z0 E118.1
    have K_119 : Keep h0 h118 [] := K_0.ext E118
    have V118 : Arv Z h118 b118 k118 .int ((((P0 &&& (1 : Int32)) + ((P0 >>> ((1 : Int32) &&& 31)) &&& (1 : Int32))) + ((P0 >>> ((2 : Int32) &&& 31)) &&& (1 : Int32))) + ((P0 >>> ((3 : Int32) &&& 31)) &&& (1 : Int32))) [(.int (0 : Int32)), (.int (0 : Int32))] (.int (0 : Int32)) := (Arv.new A118 (by first | decide | (rw [hk]; decide))).pad (pad_rep [] (.int (0 : Int32)) 2)
    obtain ⟨cl120, Ar120, q120, S120, N_120, H120, G120⟩ := id V118
    have hin120 : ¬ ((0 : Int32) < 0 ∨ cl120.slots.size ≤ ((0 : Int32)).toNatClampNeg) := inb_of S120 ⟨by first | decide | (rw [hk]; decide), by first | decide | (rw [hk]; decide)⟩
    obtain ⟨T121, h121, X121, e121, W121, st121⟩ := stI X118 hx hZ e118 Ar120 (j := (0 : Int32)) hin120 (g := (mkF m 43 #[.val (.int P0), .val (.int P1), .val (.int P2), .val (.int P3), .val (.int P4), .val (.int ((((P0 &&& (1 : Int32)) + ((P0 >>> ((1 : Int32) &&& 31)) &&& (1 : Int32))) + ((P0 >>> ((2 : Int32) &&& 31)) &&& (1 : Int32))) + ((P0 >>> ((3 : Int32) &&& 31)) &&& (1 : Int32)))), .val (.ref b118), .val (.int (0 : Int32))] [(.int P1), (.int (0 : Int32)), (.ref b118)])) rfl rfl (hb hby d1_43)
    have Z122 : n0 ≤ h121.size := Nat.le_trans Z119 (Nat.le_of_eq W121.size.symm)
    have K_122 : Keep h0 h121 [] := K_119.wr W121 (Or.inr sz_b118)
    have V121 : Arv Z h121 b118 k118 .int ((((P0 &&& (1 : Int32)) + ((P0 >>> ((1 : Int32) &&& 31)) &&& (1 : Int32))) + ((P0 >>> ((2 : Int32) &&& 31)) &&& (1 : Int32))) + ((P0 >>> ((3 : Int32) &&& 31)) &&& (1 : Int32))) [(.int P1), (.int (0 : Int32))] (.int (0 : Int32)) := Arv.set Ar120 q120 S120 N_120 H120 G120 rfl W121 0 rfl (Nat.le_of_ble_eq_true rfl)
    have N121 := Fr.snoc X121 N0 g_b118
    obtain ⟨cl123, Ar123, q123, S123, N_123, H123, G123⟩ := id V121
    have hin123 : ¬ (((0 : Int32) + (1 : Int32)) < 0 ∨ cl123.slots.size ≤ (((0 : Int32) + (1 : Int32))).toNatClampNeg) := inb_of S123 ⟨by first | decide | (rw [hk]; decide), by first | decide | (rw [hk]; decide)⟩
    obtain ⟨T124, h124, X124, e124, W124, st124⟩ := stI X121 hx hZ e121 Ar123 (j := ((0 : Int32) + (1 : Int32))) hin123 (g := (mkF m 58 #[.val (.int P0), .val (.int P1), .val (.int P2), .val (.int P3), .val (.int P4), .val (.int ((((P0 &&& (1 : Int32)) + ((P0 >>> ((1 : Int32) &&& 31)) &&& (1 : Int32))) + ((P0 >>> ((2 : Int32) &&& 31)) &&& (1 : Int32))) + ((P0 >>> ((3 : Int32) &&& 31)) &&& (1 : Int32)))), .val (.ref b118), .val (.int ((0 : Int32) + (1 : Int32)))] [(.int P2), (.int ((0 : Int32) + (1 : Int32))), (.ref b118)])) rfl rfl (hb hby d1_58)
    have Z125 : n0 ≤ h124.size := Nat.le_trans Z122 (Nat.le_of_eq W124.size.symm)
    have K_125 : Keep h0 h124 [] := K_122.wr W124 (Or.inr sz_b118)
    have V124 : Arv Z h124 b118 k118 .int ((((P0 &&& (1 : Int32)) + ((P0 >>> ((1 : Int32) &&& 31)) &&& (1 : Int32))) + ((P0 >>> ((2 : Int32) &&& 31)) &&& (1 : Int32))) + ((P0 >>> ((3 : Int32) &&& 31)) &&& (1 : Int32))) [(.int P1), (.int P2)] (.int (0 : Int32)) := Arv.set Ar123 q123 S123 N_123 H123 G123 rfl W124 1 (by decide) (Nat.le_of_ble_eq_true rfl)
    have N124 := Fr.snoc X124 N121 g_b118
    have pre126 : ∀ t, Steps p.tables e below (T124.setTop (mkF m 96 #[.val (.int P0), .val (.int P1), .val (.int P2), .val (.int P3), .val (.int P4), .val (.int ((((P0 &&& (1 : Int32)) + ((P0 >>> ((1 : Int32) &&& 31)) &&& (1 : Int32))) + ((P0 >>> ((2 : Int32) &&& 31)) &&& (1 : Int32))) + ((P0 >>> ((3 : Int32) &&& 31)) &&& (1 : Int32)))), .val (.ref b118), .val (.int (((0 : Int32) + (1 : Int32)) + (1 : Int32)))] [(.ref b118)])) t → Steps p.tables e below (s₁.setTop (entryFrame m #[(.int P0), (.int P1), (.int P2), (.int P3), (.int P4)] 8)) t := fun t kt => pre0 t (by
        show Steps p.tables e below (s₁.setTop (mkF m 0 #[.val (.int P0), .val (.int P1), .val (.int P2), .val (.int P3), .val (.int P4), .unset, .unset, .unset] [])) _
        refine XS.iloadN X0.here hx rfl (hb hby d1_0) rfl ?_
        show Steps p.tables e below (s₁.setTop (mkF m 1 #[.val (.int P0), .val (.int P1), .val (.int P2), .val (.int P3), .val (.int P4), .unset, .unset, .unset] [(.int P0)])) _
        refine XS.iconst X0.here hx rfl (hb hby d1_1) ?_
        show Steps p.tables e below (s₁.setTop (mkF m 2 #[.val (.int P0), .val (.int P1), .val (.int P2), .val (.int P3), .val (.int P4), .unset, .unset, .unset] [(.int (1 : Int32)), (.int P0)])) _
        refine XS.iand X0.here hx rfl (hb hby d1_2) rfl ?_
        show Steps p.tables e below (s₁.setTop (mkF m 3 #[.val (.int P0), .val (.int P1), .val (.int P2), .val (.int P3), .val (.int P4), .unset, .unset, .unset] [(.int (P0 &&& (1 : Int32)))])) _
        refine XS.iloadN X0.here hx rfl (hb hby d1_3) rfl ?_
        show Steps p.tables e below (s₁.setTop (mkF m 4 #[.val (.int P0), .val (.int P1), .val (.int P2), .val (.int P3), .val (.int P4), .unset, .unset, .unset] [(.int P0), (.int (P0 &&& (1 : Int32)))])) _
        refine XS.iconst X0.here hx rfl (hb hby d1_4) ?_
        show Steps p.tables e below (s₁.setTop (mkF m 5 #[.val (.int P0), .val (.int P1), .val (.int P2), .val (.int P3), .val (.int P4), .unset, .unset, .unset] [(.int (1 : Int32)), (.int P0), (.int (P0 &&& (1 : Int32)))])) _
        refine XS.ishr X0.here hx rfl (hb hby d1_5) rfl ?_
        show Steps p.tables e below (s₁.setTop (mkF m 6 #[.val (.int P0), .val (.int P1), .val (.int P2), .val (.int P3), .val (.int P4), .unset, .unset, .unset] [(.int (P0 >>> ((1 : Int32) &&& 31))), (.int (P0 &&& (1 : Int32)))])) _
        refine XS.iconst X0.here hx rfl (hb hby d1_6) ?_
        show Steps p.tables e below (s₁.setTop (mkF m 7 #[.val (.int P0), .val (.int P1), .val (.int P2), .val (.int P3), .val (.int P4), .unset, .unset, .unset] [(.int (1 : Int32)), (.int (P0 >>> ((1 : Int32) &&& 31))), (.int (P0 &&& (1 : Int32)))])) _
        refine XS.iand X0.here hx rfl (hb hby d1_7) rfl ?_
        show Steps p.tables e below (s₁.setTop (mkF m 8 #[.val (.int P0), .val (.int P1), .val (.int P2), .val (.int P3), .val (.int P4), .unset, .unset, .unset] [(.int ((P0 >>> ((1 : Int32) &&& 31)) &&& (1 : Int32))), (.int (P0 &&& (1 : Int32)))])) _
        refine XS.iadd X0.here hx rfl (hb hby d1_8) rfl ?_
        show Steps p.tables e below (s₁.setTop (mkF m 9 #[.val (.int P0), .val (.int P1), .val (.int P2), .val (.int P3), .val (.int P4), .unset, .unset, .unset] [(.int ((P0 &&& (1 : Int32)) + ((P0 >>> ((1 : Int32) &&& 31)) &&& (1 : Int32))))])) _
        refine XS.iloadN X0.here hx rfl (hb hby d1_9) rfl ?_
        show Steps p.tables e below (s₁.setTop (mkF m 10 #[.val (.int P0), .val (.int P1), .val (.int P2), .val (.int P3), .val (.int P4), .unset, .unset, .unset] [(.int P0), (.int ((P0 &&& (1 : Int32)) + ((P0 >>> ((1 : Int32) &&& 31)) &&& (1 : Int32))))])) _
        refine XS.iconst X0.here hx rfl (hb hby d1_10) ?_
        show Steps p.tables e below (s₁.setTop (mkF m 11 #[.val (.int P0), .val (.int P1), .val (.int P2), .val (.int P3), .val (.int P4), .unset, .unset, .unset] [(.int (2 : Int32)), (.int P0), (.int ((P0 &&& (1 : Int32)) + ((P0 >>> ((1 : Int32) &&& 31)) &&& (1 : Int32))))])) _
        refine XS.ishr X0.here hx rfl (hb hby d1_11) rfl ?_
        show Steps p.tables e below (s₁.setTop (mkF m 12 #[.val (.int P0), .val (.int P1), .val (.int P2), .val (.int P3), .val (.int P4), .unset, .unset, .unset] [(.int (P0 >>> ((2 : Int32) &&& 31))), (.int ((P0 &&& (1 : Int32)) + ((P0 >>> ((1 : Int32) &&& 31)) &&& (1 : Int32))))])) _
        refine XS.iconst X0.here hx rfl (hb hby d1_12) ?_
        show Steps p.tables e below (s₁.setTop (mkF m 13 #[.val (.int P0), .val (.int P1), .val (.int P2), .val (.int P3), .val (.int P4), .unset, .unset, .unset] [(.int (1 : Int32)), (.int (P0 >>> ((2 : Int32) &&& 31))), (.int ((P0 &&& (1 : Int32)) + ((P0 >>> ((1 : Int32) &&& 31)) &&& (1 : Int32))))])) _
        refine XS.iand X0.here hx rfl (hb hby d1_13) rfl ?_
        show Steps p.tables e below (s₁.setTop (mkF m 14 #[.val (.int P0), .val (.int P1), .val (.int P2), .val (.int P3), .val (.int P4), .unset, .unset, .unset] [(.int ((P0 >>> ((2 : Int32) &&& 31)) &&& (1 : Int32))), (.int ((P0 &&& (1 : Int32)) + ((P0 >>> ((1 : Int32) &&& 31)) &&& (1 : Int32))))])) _
        refine XS.iadd X0.here hx rfl (hb hby d1_14) rfl ?_
        show Steps p.tables e below (s₁.setTop (mkF m 15 #[.val (.int P0), .val (.int P1), .val (.int P2), .val (.int P3), .val (.int P4), .unset, .unset, .unset] [(.int (((P0 &&& (1 : Int32)) + ((P0 >>> ((1 : Int32) &&& 31)) &&& (1 : Int32))) + ((P0 >>> ((2 : Int32) &&& 31)) &&& (1 : Int32))))])) _
        refine XS.iloadN X0.here hx rfl (hb hby d1_15) rfl ?_
        show Steps p.tables e below (s₁.setTop (mkF m 16 #[.val (.int P0), .val (.int P1), .val (.int P2), .val (.int P3), .val (.int P4), .unset, .unset, .unset] [(.int P0), (.int (((P0 &&& (1 : Int32)) + ((P0 >>> ((1 : Int32) &&& 31)) &&& (1 : Int32))) + ((P0 >>> ((2 : Int32) &&& 31)) &&& (1 : Int32))))])) _
        refine XS.iconst X0.here hx rfl (hb hby d1_16) ?_
        show Steps p.tables e below (s₁.setTop (mkF m 17 #[.val (.int P0), .val (.int P1), .val (.int P2), .val (.int P3), .val (.int P4), .unset, .unset, .unset] [(.int (3 : Int32)), (.int P0), (.int (((P0 &&& (1 : Int32)) + ((P0 >>> ((1 : Int32) &&& 31)) &&& (1 : Int32))) + ((P0 >>> ((2 : Int32) &&& 31)) &&& (1 : Int32))))])) _
        refine XS.ishr X0.here hx rfl (hb hby d1_17) rfl ?_
        show Steps p.tables e below (s₁.setTop (mkF m 18 #[.val (.int P0), .val (.int P1), .val (.int P2), .val (.int P3), .val (.int P4), .unset, .unset, .unset] [(.int (P0 >>> ((3 : Int32) &&& 31))), (.int (((P0 &&& (1 : Int32)) + ((P0 >>> ((1 : Int32) &&& 31)) &&& (1 : Int32))) + ((P0 >>> ((2 : Int32) &&& 31)) &&& (1 : Int32))))])) _
        refine XS.iconst X0.here hx rfl (hb hby d1_18) ?_
        show Steps p.tables e below (s₁.setTop (mkF m 19 #[.val (.int P0), .val (.int P1), .val (.int P2), .val (.int P3), .val (.int P4), .unset, .unset, .unset] [(.int (1 : Int32)), (.int (P0 >>> ((3 : Int32) &&& 31))), (.int (((P0 &&& (1 : Int32)) + ((P0 >>> ((1 : Int32) &&& 31)) &&& (1 : Int32))) + ((P0 >>> ((2 : Int32) &&& 31)) &&& (1 : Int32))))])) _
        refine XS.iand X0.here hx rfl (hb hby d1_19) rfl ?_
        show Steps p.tables e below (s₁.setTop (mkF m 20 #[.val (.int P0), .val (.int P1), .val (.int P2), .val (.int P3), .val (.int P4), .unset, .unset, .unset] [(.int ((P0 >>> ((3 : Int32) &&& 31)) &&& (1 : Int32))), (.int (((P0 &&& (1 : Int32)) + ((P0 >>> ((1 : Int32) &&& 31)) &&& (1 : Int32))) + ((P0 >>> ((2 : Int32) &&& 31)) &&& (1 : Int32))))])) _
        refine XS.iadd X0.here hx rfl (hb hby d1_20) rfl ?_
        show Steps p.tables e below (s₁.setTop (mkF m 21 #[.val (.int P0), .val (.int P1), .val (.int P2), .val (.int P3), .val (.int P4), .unset, .unset, .unset] [(.int ((((P0 &&& (1 : Int32)) + ((P0 >>> ((1 : Int32) &&& 31)) &&& (1 : Int32))) + ((P0 >>> ((2 : Int32) &&& 31)) &&& (1 : Int32))) + ((P0 >>> ((3 : Int32) &&& 31)) &&& (1 : Int32))))])) _
        refine XS.istore X0.here hx rfl (hb hby d1_21) rfl (l' := #[.val (.int P0), .val (.int P1), .val (.int P2), .val (.int P3), .val (.int P4), .val (.int ((((P0 &&& (1 : Int32)) + ((P0 >>> ((1 : Int32) &&& 31)) &&& (1 : Int32))) + ((P0 >>> ((2 : Int32) &&& 31)) &&& (1 : Int32))) + ((P0 >>> ((3 : Int32) &&& 31)) &&& (1 : Int32)))), .unset, .unset]) rfl ?_
        show Steps p.tables e below (s₁.setTop (mkF m 23 #[.val (.int P0), .val (.int P1), .val (.int P2), .val (.int P3), .val (.int P4), .val (.int ((((P0 &&& (1 : Int32)) + ((P0 >>> ((1 : Int32) &&& 31)) &&& (1 : Int32))) + ((P0 >>> ((2 : Int32) &&& 31)) &&& (1 : Int32))) + ((P0 >>> ((3 : Int32) &&& 31)) &&& (1 : Int32)))), .unset, .unset] [])) _
        refine XS.iload X0.here hx rfl (hb hby d1_23) rfl ?_
        show Steps p.tables e below (s₁.setTop (mkF m 25 #[.val (.int P0), .val (.int P1), .val (.int P2), .val (.int P3), .val (.int P4), .val (.int ((((P0 &&& (1 : Int32)) + ((P0 >>> ((1 : Int32) &&& 31)) &&& (1 : Int32))) + ((P0 >>> ((2 : Int32) &&& 31)) &&& (1 : Int32))) + ((P0 >>> ((3 : Int32) &&& 31)) &&& (1 : Int32)))), .unset, .unset] [(.int ((((P0 &&& (1 : Int32)) + ((P0 >>> ((1 : Int32) &&& 31)) &&& (1 : Int32))) + ((P0 >>> ((2 : Int32) &&& 31)) &&& (1 : Int32))) + ((P0 >>> ((3 : Int32) &&& 31)) &&& (1 : Int32))))])) _
        refine st118 _ ?_
        show Steps p.tables e below (T118.setTop (mkF m 27 #[.val (.int P0), .val (.int P1), .val (.int P2), .val (.int P3), .val (.int P4), .val (.int ((((P0 &&& (1 : Int32)) + ((P0 >>> ((1 : Int32) &&& 31)) &&& (1 : Int32))) + ((P0 >>> ((2 : Int32) &&& 31)) &&& (1 : Int32))) + ((P0 >>> ((3 : Int32) &&& 31)) &&& (1 : Int32)))), .unset, .unset] [(.ref b118)])) _
        refine XS.astore X118.here hx rfl (hb hby d1_27) rfl rfl (l' := #[.val (.int P0), .val (.int P1), .val (.int P2), .val (.int P3), .val (.int P4), .val (.int ((((P0 &&& (1 : Int32)) + ((P0 >>> ((1 : Int32) &&& 31)) &&& (1 : Int32))) + ((P0 >>> ((2 : Int32) &&& 31)) &&& (1 : Int32))) + ((P0 >>> ((3 : Int32) &&& 31)) &&& (1 : Int32)))), .val (.ref b118), .unset]) rfl ?_
        show Steps p.tables e below (T118.setTop (mkF m 29 #[.val (.int P0), .val (.int P1), .val (.int P2), .val (.int P3), .val (.int P4), .val (.int ((((P0 &&& (1 : Int32)) + ((P0 >>> ((1 : Int32) &&& 31)) &&& (1 : Int32))) + ((P0 >>> ((2 : Int32) &&& 31)) &&& (1 : Int32))) + ((P0 >>> ((3 : Int32) &&& 31)) &&& (1 : Int32)))), .val (.ref b118), .unset] [])) _
        refine XS.iconst X118.here hx rfl (hb hby d1_29) ?_
        show Steps p.tables e below (T118.setTop (mkF m 30 #[.val (.int P0), .val (.int P1), .val (.int P2), .val (.int P3), .val (.int P4), .val (.int ((((P0 &&& (1 : Int32)) + ((P0 >>> ((1 : Int32) &&& 31)) &&& (1 : Int32))) + ((P0 >>> ((2 : Int32) &&& 31)) &&& (1 : Int32))) + ((P0 >>> ((3 : Int32) &&& 31)) &&& (1 : Int32)))), .val (.ref b118), .unset] [(.int (0 : Int32))])) _
        refine XS.istore X118.here hx rfl (hb hby d1_30) rfl (l' := #[.val (.int P0), .val (.int P1), .val (.int P2), .val (.int P3), .val (.int P4), .val (.int ((((P0 &&& (1 : Int32)) + ((P0 >>> ((1 : Int32) &&& 31)) &&& (1 : Int32))) + ((P0 >>> ((2 : Int32) &&& 31)) &&& (1 : Int32))) + ((P0 >>> ((3 : Int32) &&& 31)) &&& (1 : Int32)))), .val (.ref b118), .val (.int (0 : Int32))]) rfl ?_
        show Steps p.tables e below (T118.setTop (mkF m 32 #[.val (.int P0), .val (.int P1), .val (.int P2), .val (.int P3), .val (.int P4), .val (.int ((((P0 &&& (1 : Int32)) + ((P0 >>> ((1 : Int32) &&& 31)) &&& (1 : Int32))) + ((P0 >>> ((2 : Int32) &&& 31)) &&& (1 : Int32))) + ((P0 >>> ((3 : Int32) &&& 31)) &&& (1 : Int32)))), .val (.ref b118), .val (.int (0 : Int32))] [])) _
        refine XS.iloadN X118.here hx rfl (hb hby d1_32) rfl ?_
        show Steps p.tables e below (T118.setTop (mkF m 33 #[.val (.int P0), .val (.int P1), .val (.int P2), .val (.int P3), .val (.int P4), .val (.int ((((P0 &&& (1 : Int32)) + ((P0 >>> ((1 : Int32) &&& 31)) &&& (1 : Int32))) + ((P0 >>> ((2 : Int32) &&& 31)) &&& (1 : Int32))) + ((P0 >>> ((3 : Int32) &&& 31)) &&& (1 : Int32)))), .val (.ref b118), .val (.int (0 : Int32))] [(.int P0)])) _
        refine XS.iconst X118.here hx rfl (hb hby d1_33) ?_
        show Steps p.tables e below (T118.setTop (mkF m 34 #[.val (.int P0), .val (.int P1), .val (.int P2), .val (.int P3), .val (.int P4), .val (.int ((((P0 &&& (1 : Int32)) + ((P0 >>> ((1 : Int32) &&& 31)) &&& (1 : Int32))) + ((P0 >>> ((2 : Int32) &&& 31)) &&& (1 : Int32))) + ((P0 >>> ((3 : Int32) &&& 31)) &&& (1 : Int32)))), .val (.ref b118), .val (.int (0 : Int32))] [(.int (1 : Int32)), (.int P0)])) _
        refine XS.iand X118.here hx rfl (hb hby d1_34) rfl ?_
        show Steps p.tables e below (T118.setTop (mkF m 35 #[.val (.int P0), .val (.int P1), .val (.int P2), .val (.int P3), .val (.int P4), .val (.int ((((P0 &&& (1 : Int32)) + ((P0 >>> ((1 : Int32) &&& 31)) &&& (1 : Int32))) + ((P0 >>> ((2 : Int32) &&& 31)) &&& (1 : Int32))) + ((P0 >>> ((3 : Int32) &&& 31)) &&& (1 : Int32)))), .val (.ref b118), .val (.int (0 : Int32))] [(.int (P0 &&& (1 : Int32)))])) _
        refine XS.ifNo X118.here hx rfl (hb hby d1_35) rfl ((if0 _ _).trans (feq (show ¬ ((P0 &&& (1 : Int32)) = (0 : Int32)) from (by first | decide | (rw [hk]; decide)))).1) ?_
        show Steps p.tables e below (T118.setTop (mkF m 38 #[.val (.int P0), .val (.int P1), .val (.int P2), .val (.int P3), .val (.int P4), .val (.int ((((P0 &&& (1 : Int32)) + ((P0 >>> ((1 : Int32) &&& 31)) &&& (1 : Int32))) + ((P0 >>> ((2 : Int32) &&& 31)) &&& (1 : Int32))) + ((P0 >>> ((3 : Int32) &&& 31)) &&& (1 : Int32)))), .val (.ref b118), .val (.int (0 : Int32))] [])) _
        refine XS.aload X118.here hx rfl (hb hby d1_38) rfl rfl ?_
        show Steps p.tables e below (T118.setTop (mkF m 40 #[.val (.int P0), .val (.int P1), .val (.int P2), .val (.int P3), .val (.int P4), .val (.int ((((P0 &&& (1 : Int32)) + ((P0 >>> ((1 : Int32) &&& 31)) &&& (1 : Int32))) + ((P0 >>> ((2 : Int32) &&& 31)) &&& (1 : Int32))) + ((P0 >>> ((3 : Int32) &&& 31)) &&& (1 : Int32)))), .val (.ref b118), .val (.int (0 : Int32))] [(.ref b118)])) _
        refine XS.iload X118.here hx rfl (hb hby d1_40) rfl ?_
        show Steps p.tables e below (T118.setTop (mkF m 42 #[.val (.int P0), .val (.int P1), .val (.int P2), .val (.int P3), .val (.int P4), .val (.int ((((P0 &&& (1 : Int32)) + ((P0 >>> ((1 : Int32) &&& 31)) &&& (1 : Int32))) + ((P0 >>> ((2 : Int32) &&& 31)) &&& (1 : Int32))) + ((P0 >>> ((3 : Int32) &&& 31)) &&& (1 : Int32)))), .val (.ref b118), .val (.int (0 : Int32))] [(.int (0 : Int32)), (.ref b118)])) _
        refine XS.iloadN X118.here hx rfl (hb hby d1_42) rfl ?_
        show Steps p.tables e below (T118.setTop (mkF m 43 #[.val (.int P0), .val (.int P1), .val (.int P2), .val (.int P3), .val (.int P4), .val (.int ((((P0 &&& (1 : Int32)) + ((P0 >>> ((1 : Int32) &&& 31)) &&& (1 : Int32))) + ((P0 >>> ((2 : Int32) &&& 31)) &&& (1 : Int32))) + ((P0 >>> ((3 : Int32) &&& 31)) &&& (1 : Int32)))), .val (.ref b118), .val (.int (0 : Int32))] [(.int P1), (.int (0 : Int32)), (.ref b118)])) _
        refine st121 _ ?_
        show Steps p.tables e below (T121.setTop (mkF m 44 #[.val (.int P0), .val (.int P1), .val (.int P2), .val (.int P3), .val (.int P4), .val (.int ((((P0 &&& (1 : Int32)) + ((P0 >>> ((1 : Int32) &&& 31)) &&& (1 : Int32))) + ((P0 >>> ((2 : Int32) &&& 31)) &&& (1 : Int32))) + ((P0 >>> ((3 : Int32) &&& 31)) &&& (1 : Int32)))), .val (.ref b118), .val (.int (0 : Int32))] [])) _
        refine XS.iinc X121.here hx rfl (hb hby d1_44) rfl (l' := #[.val (.int P0), .val (.int P1), .val (.int P2), .val (.int P3), .val (.int P4), .val (.int ((((P0 &&& (1 : Int32)) + ((P0 >>> ((1 : Int32) &&& 31)) &&& (1 : Int32))) + ((P0 >>> ((2 : Int32) &&& 31)) &&& (1 : Int32))) + ((P0 >>> ((3 : Int32) &&& 31)) &&& (1 : Int32)))), .val (.ref b118), .val (.int ((0 : Int32) + (1 : Int32)))]) rfl ?_
        show Steps p.tables e below (T121.setTop (mkF m 47 #[.val (.int P0), .val (.int P1), .val (.int P2), .val (.int P3), .val (.int P4), .val (.int ((((P0 &&& (1 : Int32)) + ((P0 >>> ((1 : Int32) &&& 31)) &&& (1 : Int32))) + ((P0 >>> ((2 : Int32) &&& 31)) &&& (1 : Int32))) + ((P0 >>> ((3 : Int32) &&& 31)) &&& (1 : Int32)))), .val (.ref b118), .val (.int ((0 : Int32) + (1 : Int32)))] [])) _
        refine XS.iloadN X121.here hx rfl (hb hby d1_47) rfl ?_
        show Steps p.tables e below (T121.setTop (mkF m 48 #[.val (.int P0), .val (.int P1), .val (.int P2), .val (.int P3), .val (.int P4), .val (.int ((((P0 &&& (1 : Int32)) + ((P0 >>> ((1 : Int32) &&& 31)) &&& (1 : Int32))) + ((P0 >>> ((2 : Int32) &&& 31)) &&& (1 : Int32))) + ((P0 >>> ((3 : Int32) &&& 31)) &&& (1 : Int32)))), .val (.ref b118), .val (.int ((0 : Int32) + (1 : Int32)))] [(.int P0)])) _
        refine XS.iconst X121.here hx rfl (hb hby d1_48) ?_
        show Steps p.tables e below (T121.setTop (mkF m 49 #[.val (.int P0), .val (.int P1), .val (.int P2), .val (.int P3), .val (.int P4), .val (.int ((((P0 &&& (1 : Int32)) + ((P0 >>> ((1 : Int32) &&& 31)) &&& (1 : Int32))) + ((P0 >>> ((2 : Int32) &&& 31)) &&& (1 : Int32))) + ((P0 >>> ((3 : Int32) &&& 31)) &&& (1 : Int32)))), .val (.ref b118), .val (.int ((0 : Int32) + (1 : Int32)))] [(.int (2 : Int32)), (.int P0)])) _
        refine XS.iand X121.here hx rfl (hb hby d1_49) rfl ?_
        show Steps p.tables e below (T121.setTop (mkF m 50 #[.val (.int P0), .val (.int P1), .val (.int P2), .val (.int P3), .val (.int P4), .val (.int ((((P0 &&& (1 : Int32)) + ((P0 >>> ((1 : Int32) &&& 31)) &&& (1 : Int32))) + ((P0 >>> ((2 : Int32) &&& 31)) &&& (1 : Int32))) + ((P0 >>> ((3 : Int32) &&& 31)) &&& (1 : Int32)))), .val (.ref b118), .val (.int ((0 : Int32) + (1 : Int32)))] [(.int (P0 &&& (2 : Int32)))])) _
        refine XS.ifNo X121.here hx rfl (hb hby d1_50) rfl ((if0 _ _).trans (feq (show ¬ ((P0 &&& (2 : Int32)) = (0 : Int32)) from (by first | decide | (rw [hk]; decide)))).1) ?_
        show Steps p.tables e below (T121.setTop (mkF m 53 #[.val (.int P0), .val (.int P1), .val (.int P2), .val (.int P3), .val (.int P4), .val (.int ((((P0 &&& (1 : Int32)) + ((P0 >>> ((1 : Int32) &&& 31)) &&& (1 : Int32))) + ((P0 >>> ((2 : Int32) &&& 31)) &&& (1 : Int32))) + ((P0 >>> ((3 : Int32) &&& 31)) &&& (1 : Int32)))), .val (.ref b118), .val (.int ((0 : Int32) + (1 : Int32)))] [])) _
        refine XS.aload X121.here hx rfl (hb hby d1_53) rfl rfl ?_
        show Steps p.tables e below (T121.setTop (mkF m 55 #[.val (.int P0), .val (.int P1), .val (.int P2), .val (.int P3), .val (.int P4), .val (.int ((((P0 &&& (1 : Int32)) + ((P0 >>> ((1 : Int32) &&& 31)) &&& (1 : Int32))) + ((P0 >>> ((2 : Int32) &&& 31)) &&& (1 : Int32))) + ((P0 >>> ((3 : Int32) &&& 31)) &&& (1 : Int32)))), .val (.ref b118), .val (.int ((0 : Int32) + (1 : Int32)))] [(.ref b118)])) _
        refine XS.iload X121.here hx rfl (hb hby d1_55) rfl ?_
        show Steps p.tables e below (T121.setTop (mkF m 57 #[.val (.int P0), .val (.int P1), .val (.int P2), .val (.int P3), .val (.int P4), .val (.int ((((P0 &&& (1 : Int32)) + ((P0 >>> ((1 : Int32) &&& 31)) &&& (1 : Int32))) + ((P0 >>> ((2 : Int32) &&& 31)) &&& (1 : Int32))) + ((P0 >>> ((3 : Int32) &&& 31)) &&& (1 : Int32)))), .val (.ref b118), .val (.int ((0 : Int32) + (1 : Int32)))] [(.int ((0 : Int32) + (1 : Int32))), (.ref b118)])) _
        refine XS.iloadN X121.here hx rfl (hb hby d1_57) rfl ?_
        show Steps p.tables e below (T121.setTop (mkF m 58 #[.val (.int P0), .val (.int P1), .val (.int P2), .val (.int P3), .val (.int P4), .val (.int ((((P0 &&& (1 : Int32)) + ((P0 >>> ((1 : Int32) &&& 31)) &&& (1 : Int32))) + ((P0 >>> ((2 : Int32) &&& 31)) &&& (1 : Int32))) + ((P0 >>> ((3 : Int32) &&& 31)) &&& (1 : Int32)))), .val (.ref b118), .val (.int ((0 : Int32) + (1 : Int32)))] [(.int P2), (.int ((0 : Int32) + (1 : Int32))), (.ref b118)])) _
        refine st124 _ ?_
        show Steps p.tables e below (T124.setTop (mkF m 59 #[.val (.int P0), .val (.int P1), .val (.int P2), .val (.int P3), .val (.int P4), .val (.int ((((P0 &&& (1 : Int32)) + ((P0 >>> ((1 : Int32) &&& 31)) &&& (1 : Int32))) + ((P0 >>> ((2 : Int32) &&& 31)) &&& (1 : Int32))) + ((P0 >>> ((3 : Int32) &&& 31)) &&& (1 : Int32)))), .val (.ref b118), .val (.int ((0 : Int32) + (1 : Int32)))] [])) _
        refine XS.iinc X124.here hx rfl (hb hby d1_59) rfl (l' := #[.val (.int P0), .val (.int P1), .val (.int P2), .val (.int P3), .val (.int P4), .val (.int ((((P0 &&& (1 : Int32)) + ((P0 >>> ((1 : Int32) &&& 31)) &&& (1 : Int32))) + ((P0 >>> ((2 : Int32) &&& 31)) &&& (1 : Int32))) + ((P0 >>> ((3 : Int32) &&& 31)) &&& (1 : Int32)))), .val (.ref b118), .val (.int (((0 : Int32) + (1 : Int32)) + (1 : Int32)))]) rfl ?_
        show Steps p.tables e below (T124.setTop (mkF m 62 #[.val (.int P0), .val (.int P1), .val (.int P2), .val (.int P3), .val (.int P4), .val (.int ((((P0 &&& (1 : Int32)) + ((P0 >>> ((1 : Int32) &&& 31)) &&& (1 : Int32))) + ((P0 >>> ((2 : Int32) &&& 31)) &&& (1 : Int32))) + ((P0 >>> ((3 : Int32) &&& 31)) &&& (1 : Int32)))), .val (.ref b118), .val (.int (((0 : Int32) + (1 : Int32)) + (1 : Int32)))] [])) _
        refine XS.iloadN X124.here hx rfl (hb hby d1_62) rfl ?_
        show Steps p.tables e below (T124.setTop (mkF m 63 #[.val (.int P0), .val (.int P1), .val (.int P2), .val (.int P3), .val (.int P4), .val (.int ((((P0 &&& (1 : Int32)) + ((P0 >>> ((1 : Int32) &&& 31)) &&& (1 : Int32))) + ((P0 >>> ((2 : Int32) &&& 31)) &&& (1 : Int32))) + ((P0 >>> ((3 : Int32) &&& 31)) &&& (1 : Int32)))), .val (.ref b118), .val (.int (((0 : Int32) + (1 : Int32)) + (1 : Int32)))] [(.int P0)])) _
        refine XS.iconst X124.here hx rfl (hb hby d1_63) ?_
        show Steps p.tables e below (T124.setTop (mkF m 64 #[.val (.int P0), .val (.int P1), .val (.int P2), .val (.int P3), .val (.int P4), .val (.int ((((P0 &&& (1 : Int32)) + ((P0 >>> ((1 : Int32) &&& 31)) &&& (1 : Int32))) + ((P0 >>> ((2 : Int32) &&& 31)) &&& (1 : Int32))) + ((P0 >>> ((3 : Int32) &&& 31)) &&& (1 : Int32)))), .val (.ref b118), .val (.int (((0 : Int32) + (1 : Int32)) + (1 : Int32)))] [(.int (4 : Int32)), (.int P0)])) _
        refine XS.iand X124.here hx rfl (hb hby d1_64) rfl ?_
        show Steps p.tables e below (T124.setTop (mkF m 65 #[.val (.int P0), .val (.int P1), .val (.int P2), .val (.int P3), .val (.int P4), .val (.int ((((P0 &&& (1 : Int32)) + ((P0 >>> ((1 : Int32) &&& 31)) &&& (1 : Int32))) + ((P0 >>> ((2 : Int32) &&& 31)) &&& (1 : Int32))) + ((P0 >>> ((3 : Int32) &&& 31)) &&& (1 : Int32)))), .val (.ref b118), .val (.int (((0 : Int32) + (1 : Int32)) + (1 : Int32)))] [(.int (P0 &&& (4 : Int32)))])) _
        refine XS.ifYes X124.here hx rfl (pc0 := 65) (pc' := 77) rfl (hb hby d1_65) rfl ((if0 _ _).trans (teq (show (P0 &&& (4 : Int32)) = (0 : Int32) from (by first | decide | (rw [hk]; decide)))).1) (by decide) (by decide) ?_
        show Steps p.tables e below (T124.setTop (mkF m 77 #[.val (.int P0), .val (.int P1), .val (.int P2), .val (.int P3), .val (.int P4), .val (.int ((((P0 &&& (1 : Int32)) + ((P0 >>> ((1 : Int32) &&& 31)) &&& (1 : Int32))) + ((P0 >>> ((2 : Int32) &&& 31)) &&& (1 : Int32))) + ((P0 >>> ((3 : Int32) &&& 31)) &&& (1 : Int32)))), .val (.ref b118), .val (.int (((0 : Int32) + (1 : Int32)) + (1 : Int32)))] [])) _
        refine XS.iloadN X124.here hx rfl (hb hby d1_77) rfl ?_
        show Steps p.tables e below (T124.setTop (mkF m 78 #[.val (.int P0), .val (.int P1), .val (.int P2), .val (.int P3), .val (.int P4), .val (.int ((((P0 &&& (1 : Int32)) + ((P0 >>> ((1 : Int32) &&& 31)) &&& (1 : Int32))) + ((P0 >>> ((2 : Int32) &&& 31)) &&& (1 : Int32))) + ((P0 >>> ((3 : Int32) &&& 31)) &&& (1 : Int32)))), .val (.ref b118), .val (.int (((0 : Int32) + (1 : Int32)) + (1 : Int32)))] [(.int P0)])) _
        refine XS.bipush X124.here hx rfl (hb hby d1_78) ?_
        show Steps p.tables e below (T124.setTop (mkF m 80 #[.val (.int P0), .val (.int P1), .val (.int P2), .val (.int P3), .val (.int P4), .val (.int ((((P0 &&& (1 : Int32)) + ((P0 >>> ((1 : Int32) &&& 31)) &&& (1 : Int32))) + ((P0 >>> ((2 : Int32) &&& 31)) &&& (1 : Int32))) + ((P0 >>> ((3 : Int32) &&& 31)) &&& (1 : Int32)))), .val (.ref b118), .val (.int (((0 : Int32) + (1 : Int32)) + (1 : Int32)))] [(.int (8 : Int32)), (.int P0)])) _
        refine XS.iand X124.here hx rfl (hb hby d1_80) rfl ?_
        show Steps p.tables e below (T124.setTop (mkF m 81 #[.val (.int P0), .val (.int P1), .val (.int P2), .val (.int P3), .val (.int P4), .val (.int ((((P0 &&& (1 : Int32)) + ((P0 >>> ((1 : Int32) &&& 31)) &&& (1 : Int32))) + ((P0 >>> ((2 : Int32) &&& 31)) &&& (1 : Int32))) + ((P0 >>> ((3 : Int32) &&& 31)) &&& (1 : Int32)))), .val (.ref b118), .val (.int (((0 : Int32) + (1 : Int32)) + (1 : Int32)))] [(.int (P0 &&& (8 : Int32)))])) _
        refine XS.ifYes X124.here hx rfl (pc0 := 81) (pc' := 94) rfl (hb hby d1_81) rfl ((if0 _ _).trans (teq (show (P0 &&& (8 : Int32)) = (0 : Int32) from (by first | decide | (rw [hk]; decide)))).1) (by decide) (by decide) ?_
        show Steps p.tables e below (T124.setTop (mkF m 94 #[.val (.int P0), .val (.int P1), .val (.int P2), .val (.int P3), .val (.int P4), .val (.int ((((P0 &&& (1 : Int32)) + ((P0 >>> ((1 : Int32) &&& 31)) &&& (1 : Int32))) + ((P0 >>> ((2 : Int32) &&& 31)) &&& (1 : Int32))) + ((P0 >>> ((3 : Int32) &&& 31)) &&& (1 : Int32)))), .val (.ref b118), .val (.int (((0 : Int32) + (1 : Int32)) + (1 : Int32)))] [])) _
        refine XS.aload X124.here hx rfl (hb hby d1_94) rfl rfl ?_
        exact kt)
    have hsel : (own_sel P0 P1 P2 P3 P4).map Value.int = [(.int P1), (.int P2)] := by rw [hk, own_sel3]; rfl
    have c127 : Exa Z h124 b118 "[I" := ((EX118.wr W121).wr W124)
    obtain ⟨fs, hr, hrun, hended, hW, hsame⟩ := X124.leave (v := some (.ref b118)) (fun h => by rw [Bd.returns] at h; cases h)
    refine ⟨_, _, pre126 _ ?_, hrun, hended, _, _, rfl, ?_, ⟨_, rfl⟩, hW, hsame.mono (by decide) (by decide)⟩
    · show Steps p.tables e below (T124.setTop (mkF m 96 #[.val (.int P0), .val (.int P1), .val (.int P2), .val (.int P3), .val (.int P4), .val (.int ((((P0 &&& (1 : Int32)) + ((P0 >>> ((1 : Int32) &&& 31)) &&& (1 : Int32))) + ((P0 >>> ((2 : Int32) &&& 31)) &&& (1 : Int32))) + ((P0 >>> ((3 : Int32) &&& 31)) &&& (1 : Int32)))), .val (.ref b118), .val (.int (((0 : Int32) + (1 : Int32)) + (1 : Int32)))] [(.ref b118)])) _
      exact retOut X124 hx Bd.returns rfl (Or.inr (Or.inr (Or.inr (Or.inr ⟨rfl, rfl, rfl⟩)))) (hb hby d1_96) hr
    · show Q1 Z P0 P1 P2 P3 P4 h0 n0 _ T124.heap _
      rw [e124]
      exact ⟨b118, k118, rfl, N124, K_125, sz_b118, c127, (by rw [hsel]; exact V124)⟩
  · obtain ⟨T128, h128, k128, X128, e128, E128, A128, EX128, st128⟩ := newPE X0 hx hZ (hw _ (List.mem_of_getElem? (i := 8) rfl)) e0 (g := (mkF m 25 #[.val (.int P0), .val (.int P1), .val (.int P2), .val (.int P3), .val (.int P4), .val (.int ((((P0 &&& (1 : Int32)) + ((P0 >>> ((1 : Int32) &&& 31)) &&& (1 : Int32))) + ((P0 >>> ((2 : Int32) &&& 31)) &&& (1 : Int32))) + ((P0 >>> ((3 : Int32) &&& 31)) &&& (1 : Int32)))), .unset, .unset] [(.int ((((P0 &&& (1 : Int32)) + ((P0 >>> ((1 : Int32) &&& 31)) &&& (1 : Int32))) + ((P0 >>> ((2 : Int32) &&& 31)) &&& (1 : Int32))) + ((P0 >>> ((3 : Int32) &&& 31)) &&& (1 : Int32))))])) rfl (hb hby d1_25) rfl (by first | decide | (rw [hk]; decide)) (cap := 4) (by first | decide | (rw [hk]; decide)) (by decide) (by decide) (by decide) (ad := "[I") (by decide)
    obtain ⟨b128, q128⟩ : ∃ z, z = h0.size := ⟨_, rfl⟩
    rw [← q128] at A128 EX128 st128
    have g_b128 : n0 ≤ b128 := Nat.le_trans Z0 (Nat.le_of_eq q128.symm)
    have sz_b128 : h0.size ≤ b128 := Nat.le_trans K_0.1 (Nat.le_of_eq q128.symm)
    have Z129 : n0 ≤ h128.size := Nat.le_trans Z0 E128.1
    have K_129 : Keep h0 h128 [] := K_0.ext E128
    have V128 : Arv Z h128 b128 k128 .int ((((P0 &&& (1 : Int32)) + ((P0 >>> ((1 : Int32) &&& 31)) &&& (1 : Int32))) + ((P0 >>> ((2 : Int32) &&& 31)) &&& (1 : Int32))) + ((P0 >>> ((3 : Int32) &&& 31)) &&& (1 : Int32))) [(.int (0 : Int32))] (.int (0 : Int32)) := (Arv.new A128 (by first | decide | (rw [hk]; decide))).pad (pad_rep [] (.int (0 : Int32)) 1)
    obtain ⟨cl130, Ar130, q130, S130, N_130, H130, G130⟩ := id V128
    have hin130 : ¬ ((0 : Int32) < 0 ∨ cl130.slots.size ≤ ((0 : Int32)).toNatClampNeg) := inb_of S130 ⟨by first | decide | (rw [hk]; decide), by first | decide | (rw [hk]; decide)⟩
    obtain ⟨T131, h131, X131, e131, W131, st131⟩ := stI X128 hx hZ e128 Ar130 (j := (0 : Int32)) hin130 (g := (mkF m 73 #[.val (.int P0), .val (.int P1), .val (.int P2), .val (.int P3), .val (.int P4), .val (.int ((((P0 &&& (1 : Int32)) + ((P0 >>> ((1 : Int32) &&& 31)) &&& (1 : Int32))) + ((P0 >>> ((2 : Int32) &&& 31)) &&& (1 : Int32))) + ((P0 >>> ((3 : Int32) &&& 31)) &&& (1 : Int32)))), .val (.ref b128), .val (.int (0 : Int32))] [(.int P3), (.int (0 : Int32)), (.ref b128)])) rfl rfl (hb hby d1_73)
    have Z132 : n0 ≤ h131.size := Nat.le_trans Z129 (Nat.le_of_eq W131.size.symm)
    have K_132 : Keep h0 h131 [] := K_129.wr W131 (Or.inr sz_b128)
    have V131 : Arv Z h131 b128 k128 .int ((((P0 &&& (1 : Int32)) + ((P0 >>> ((1 : Int32) &&& 31)) &&& (1 : Int32))) + ((P0 >>> ((2 : Int32) &&& 31)) &&& (1 : Int32))) + ((P0 >>> ((3 : Int32) &&& 31)) &&& (1 : Int32))) [(.int P3)] (.int (0 : Int32)) := Arv.set Ar130 q130 S130 N_130 H130 G130 rfl W131 0 rfl (Nat.le_of_ble_eq_true rfl)
    have N131 := Fr.snoc X131 N0 g_b128
    have pre133 : ∀ t, Steps p.tables e below (T131.setTop (mkF m 96 #[.val (.int P0), .val (.int P1), .val (.int P2), .val (.int P3), .val (.int P4), .val (.int ((((P0 &&& (1 : Int32)) + ((P0 >>> ((1 : Int32) &&& 31)) &&& (1 : Int32))) + ((P0 >>> ((2 : Int32) &&& 31)) &&& (1 : Int32))) + ((P0 >>> ((3 : Int32) &&& 31)) &&& (1 : Int32)))), .val (.ref b128), .val (.int ((0 : Int32) + (1 : Int32)))] [(.ref b128)])) t → Steps p.tables e below (s₁.setTop (entryFrame m #[(.int P0), (.int P1), (.int P2), (.int P3), (.int P4)] 8)) t := fun t kt => pre0 t (by
        show Steps p.tables e below (s₁.setTop (mkF m 0 #[.val (.int P0), .val (.int P1), .val (.int P2), .val (.int P3), .val (.int P4), .unset, .unset, .unset] [])) _
        refine XS.iloadN X0.here hx rfl (hb hby d1_0) rfl ?_
        show Steps p.tables e below (s₁.setTop (mkF m 1 #[.val (.int P0), .val (.int P1), .val (.int P2), .val (.int P3), .val (.int P4), .unset, .unset, .unset] [(.int P0)])) _
        refine XS.iconst X0.here hx rfl (hb hby d1_1) ?_
        show Steps p.tables e below (s₁.setTop (mkF m 2 #[.val (.int P0), .val (.int P1), .val (.int P2), .val (.int P3), .val (.int P4), .unset, .unset, .unset] [(.int (1 : Int32)), (.int P0)])) _
        refine XS.iand X0.here hx rfl (hb hby d1_2) rfl ?_
        show Steps p.tables e below (s₁.setTop (mkF m 3 #[.val (.int P0), .val (.int P1), .val (.int P2), .val (.int P3), .val (.int P4), .unset, .unset, .unset] [(.int (P0 &&& (1 : Int32)))])) _
        refine XS.iloadN X0.here hx rfl (hb hby d1_3) rfl ?_
        show Steps p.tables e below (s₁.setTop (mkF m 4 #[.val (.int P0), .val (.int P1), .val (.int P2), .val (.int P3), .val (.int P4), .unset, .unset, .unset] [(.int P0), (.int (P0 &&& (1 : Int32)))])) _
        refine XS.iconst X0.here hx rfl (hb hby d1_4) ?_
        show Steps p.tables e below (s₁.setTop (mkF m 5 #[.val (.int P0), .val (.int P1), .val (.int P2), .val (.int P3), .val (.int P4), .unset, .unset, .unset] [(.int (1 : Int32)), (.int P0), (.int (P0 &&& (1 : Int32)))])) _
        refine XS.ishr X0.here hx rfl (hb hby d1_5) rfl ?_
        show Steps p.tables e below (s₁.setTop (mkF m 6 #[.val (.int P0), .val (.int P1), .val (.int P2), .val (.int P3), .val (.int P4), .unset, .unset, .unset] [(.int (P0 >>> ((1 : Int32) &&& 31))), (.int (P0 &&& (1 : Int32)))])) _
        refine XS.iconst X0.here hx rfl (hb hby d1_6) ?_
        show Steps p.tables e below (s₁.setTop (mkF m 7 #[.val (.int P0), .val (.int P1), .val (.int P2), .val (.int P3), .val (.int P4), .unset, .unset, .unset] [(.int (1 : Int32)), (.int (P0 >>> ((1 : Int32) &&& 31))), (.int (P0 &&& (1 : Int32)))])) _
        refine XS.iand X0.here hx rfl (hb hby d1_7) rfl ?_
        show Steps p.tables e below (s₁.setTop (mkF m 8 #[.val (.int P0), .val (.int P1), .val (.int P2), .val (.int P3), .val (.int P4), .unset, .unset, .unset] [(.int ((P0 >>> ((1 : Int32) &&& 31)) &&& (1 : Int32))), (.int (P0 &&& (1 : Int32)))])) _
        refine XS.iadd X0.here hx rfl (hb hby d1_8) rfl ?_
        show Steps p.tables e below (s₁.setTop (mkF m 9 #[.val (.int P0), .val (.int P1), .val (.int P2), .val (.int P3), .val (.int P4), .unset, .unset, .unset] [(.int ((P0 &&& (1 : Int32)) + ((P0 >>> ((1 : Int32) &&& 31)) &&& (1 : Int32))))])) _
        refine XS.iloadN X0.here hx rfl (hb hby d1_9) rfl ?_
        show Steps p.tables e below (s₁.setTop (mkF m 10 #[.val (.int P0), .val (.int P1), .val (.int P2), .val (.int P3), .val (.int P4), .unset, .unset, .unset] [(.int P0), (.int ((P0 &&& (1 : Int32)) + ((P0 >>> ((1 : Int32) &&& 31)) &&& (1 : Int32))))])) _
        refine XS.iconst X0.here hx rfl (hb hby d1_10) ?_
        show Steps p.tables e below (s₁.setTop (mkF m 11 #[.val (.int P0), .val (.int P1), .val (.int P2), .val (.int P3), .val (.int P4), .unset, .unset, .unset] [(.int (2 : Int32)), (.int P0), (.int ((P0 &&& (1 : Int32)) + ((P0 >>> ((1 : Int32) &&& 31)) &&& (1 : Int32))))])) _
        refine XS.ishr X0.here hx rfl (hb hby d1_11) rfl ?_
        show Steps p.tables e below (s₁.setTop (mkF m 12 #[.val (.int P0), .val (.int P1), .val (.int P2), .val (.int P3), .val (.int P4), .unset, .unset, .unset] [(.int (P0 >>> ((2 : Int32) &&& 31))), (.int ((P0 &&& (1 : Int32)) + ((P0 >>> ((1 : Int32) &&& 31)) &&& (1 : Int32))))])) _
        refine XS.iconst X0.here hx rfl (hb hby d1_12) ?_
        show Steps p.tables e below (s₁.setTop (mkF m 13 #[.val (.int P0), .val (.int P1), .val (.int P2), .val (.int P3), .val (.int P4), .unset, .unset, .unset] [(.int (1 : Int32)), (.int (P0 >>> ((2 : Int32) &&& 31))), (.int ((P0 &&& (1 : Int32)) + ((P0 >>> ((1 : Int32) &&& 31)) &&& (1 : Int32))))])) _
        refine XS.iand X0.here hx rfl (hb hby d1_13) rfl ?_
        show Steps p.tables e below (s₁.setTop (mkF m 14 #[.val (.int P0), .val (.int P1), .val (.int P2), .val (.int P3), .val (.int P4), .unset, .unset, .unset] [(.int ((P0 >>> ((2 : Int32) &&& 31)) &&& (1 : Int32))), (.int ((P0 &&& (1 : Int32)) + ((P0 >>> ((1 : Int32) &&& 31)) &&& (1 : Int32))))])) _
        refine XS.iadd X0.here hx rfl (hb hby d1_14) rfl ?_
        show Steps p.tables e below (s₁.setTop (mkF m 15 #[.val (.int P0), .val (.int P1), .val (.int P2), .val (.int P3), .val (.int P4), .unset, .unset, .unset] [(.int (((P0 &&& (1 : Int32)) + ((P0 >>> ((1 : Int32) &&& 31)) &&& (1 : Int32))) + ((P0 >>> ((2 : Int32) &&& 31)) &&& (1 : Int32))))])) _
        refine XS.iloadN X0.here hx rfl (hb hby d1_15) rfl ?_
        show Steps p.tables e below (s₁.setTop (mkF m 16 #[.val (.int P0), .val (.int P1), .val (.int P2), .val (.int P3), .val (.int P4), .unset, .unset, .unset] [(.int P0), (.int (((P0 &&& (1 : Int32)) + ((P0 >>> ((1 : Int32) &&& 31)) &&& (1 : Int32))) + ((P0 >>> ((2 : Int32) &&& 31)) &&& (1 : Int32))))])) _
        refine XS.iconst X0.here hx rfl (hb hby d1_16) ?_
        show Steps p.tables e below (s₁.setTop (mkF m 17 #[.val (.int P0), .val (.int P1), .val (.int P2), .val (.int P3), .val (.int P4), .unset, .unset, .unset] [(.int (3 : Int32)), (.int P0), (.int (((P0 &&& (1 : Int32)) + ((P0 >>> ((1 : Int32) &&& 31)) &&& (1 : Int32))) + ((P0 >>> ((2 : Int32) &&& 31)) &&& (1 : Int32))))])) _
        refine XS.ishr X0.here hx rfl (hb hby d1_17) rfl ?_
        show Steps p.tables e below (s₁.setTop (mkF m 18 #[.val (.int P0), .val (.int P1), .val (.int P2), .val (.int P3), .val (.int P4), .unset, .unset, .unset] [(.int (P0 >>> ((3 : Int32) &&& 31))), (.int (((P0 &&& (1 : Int32)) + ((P0 >>> ((1 : Int32) &&& 31)) &&& (1 : Int32))) + ((P0 >>> ((2 : Int32) &&& 31)) &&& (1 : Int32))))])) _
        refine XS.iconst X0.here hx rfl (hb hby d1_18) ?_
        show Steps p.tables e below (s₁.setTop (mkF m 19 #[.val (.int P0), .val (.int P1), .val (.int P2), .val (.int P3), .val (.int P4), .unset, .unset, .unset] [(.int (1 : Int32)), (.int (P0 >>> ((3 : Int32) &&& 31))), (.int (((P0 &&& (1 : Int32)) + ((P0 >>> ((1 : Int32) &&& 31)) &&& (1 : Int32))) + ((P0 >>> ((2 : Int32) &&& 31)) &&& (1 : Int32))))])) _
        refine XS.iand X0.here hx rfl (hb hby d1_19) rfl ?_
        show Steps p.tables e below (s₁.setTop (mkF m 20 #[.val (.int P0), .val (.int P1), .val (.int P2), .val (.int P3), .val (.int P4), .unset, .unset, .unset] [(.int ((P0 >>> ((3 : Int32) &&& 31)) &&& (1 : Int32))), (.int (((P0 &&& (1 : Int32)) + ((P0 >>> ((1 : Int32) &&& 31)) &&& (1 : Int32))) + ((P0 >>> ((2 : Int32) &&& 31)) &&& (1 : Int32))))])) _
        refine XS.iadd X0.here hx rfl (hb hby d1_20) rfl ?_
        show Steps p.tables e below (s₁.setTop (mkF m 21 #[.val (.int P0), .val (.int P1), .val (.int P2), .val (.int P3), .val (.int P4), .unset, .unset, .unset] [(.int ((((P0 &&& (1 : Int32)) + ((P0 >>> ((1 : Int32) &&& 31)) &&& (1 : Int32))) + ((P0 >>> ((2 : Int32) &&& 31)) &&& (1 : Int32))) + ((P0 >>> ((3 : Int32) &&& 31)) &&& (1 : Int32))))])) _
        refine XS.istore X0.here hx rfl (hb hby d1_21) rfl (l' := #[.val (.int P0), .val (.int P1), .val (.int P2), .val (.int P3), .val (.int P4), .val (.int ((((P0 &&& (1 : Int32)) + ((P0 >>> ((1 : Int32) &&& 31)) &&& (1 : Int32))) + ((P0 >>> ((2 : Int32) &&& 31)) &&& (1 : Int32))) + ((P0 >>> ((3 : Int32) &&& 31)) &&& (1 : Int32)))), .unset, .unset]) rfl ?_
        show Steps p.tables e below (s₁.setTop (mkF m 23 #[.val (.int P0), .val (.int P1), .val (.int P2), .val (.int P3), .val (.int P4), .val (.int ((((P0 &&& (1 : Int32)) + ((P0 >>> ((1 : Int32) &&& 31)) &&& (1 : Int32))) + ((P0 >>> ((2 : Int32) &&& 31)) &&& (1 : Int32))) + ((P0 >>> ((3 : Int32) &&& 31)) &&& (1 : Int32)))), .unset, .unset] [])) _
        refine XS.iload X0.here hx rfl (hb hby d1_23) rfl ?_
        show Steps p.tables e below (s₁.setTop (mkF m 25 #[.val (.int P0), .val (.int P1), .val (.int P2), .val (.int P3), .val (.int P4), .val (.int ((((P0 &&& (1 : Int32)) + ((P0 >>> ((1 : Int32) &&& 31)) &&& (1 : Int32))) + ((P0 >>> ((2 : Int32) &&& 31)) &&& (1 : Int32))) + ((P0 >>> ((3 : Int32) &&& 31)) &&& (1 : Int32)))), .unset, .unset] [(.int ((((P0 &&& (1 : Int32)) + ((P0 >>> ((1 : Int32) &&& 31)) &&& (1 : Int32))) + ((P0 >>> ((2 : Int32) &&& 31)) &&& (1 : Int32))) + ((P0 >>> ((3 : Int32) &&& 31)) &&& (1 : Int32))))])) _
        refine st128 _ ?_
        show Steps p.tables e below (T128.setTop (mkF m 27 #[.val (.int P0), .val (.int P1), .val (.int P2), .val (.int P3), .val (.int P4), .val (.int ((((P0 &&& (1 : Int32)) + ((P0 >>> ((1 : Int32) &&& 31)) &&& (1 : Int32))) + ((P0 >>> ((2 : Int32) &&& 31)) &&& (1 : Int32))) + ((P0 >>> ((3 : Int32) &&& 31)) &&& (1 : Int32)))), .unset, .unset] [(.ref b128)])) _
        refine XS.astore X128.here hx rfl (hb hby d1_27) rfl rfl (l' := #[.val (.int P0), .val (.int P1), .val (.int P2), .val (.int P3), .val (.int P4), .val (.int ((((P0 &&& (1 : Int32)) + ((P0 >>> ((1 : Int32) &&& 31)) &&& (1 : Int32))) + ((P0 >>> ((2 : Int32) &&& 31)) &&& (1 : Int32))) + ((P0 >>> ((3 : Int32) &&& 31)) &&& (1 : Int32)))), .val (.ref b128), .unset]) rfl ?_
        show Steps p.tables e below (T128.setTop (mkF m 29 #[.val (.int P0), .val (.int P1), .val (.int P2), .val (.int P3), .val (.int P4), .val (.int ((((P0 &&& (1 : Int32)) + ((P0 >>> ((1 : Int32) &&& 31)) &&& (1 : Int32))) + ((P0 >>> ((2 : Int32) &&& 31)) &&& (1 : Int32))) + ((P0 >>> ((3 : Int32) &&& 31)) &&& (1 : Int32)))), .val (.ref b128), .unset] [])) _
        refine XS.iconst X128.here hx rfl (hb hby d1_29) ?_
        show Steps p.tables e below (T128.setTop (mkF m 30 #[.val (.int P0), .val (.int P1), .val (.int P2), .val (.int P3), .val (.int P4), .val (.int ((((P0 &&& (1 : Int32)) + ((P0 >>> ((1 : Int32) &&& 31)) &&& (1 : Int32))) + ((P0 >>> ((2 : Int32) &&& 31)) &&& (1 : Int32))) + ((P0 >>> ((3 : Int32) &&& 31)) &&& (1 : Int32)))), .val (.ref b128), .unset] [(.int (0 : Int32))])) _
        refine XS.istore X128.here hx rfl (hb hby d1_30) rfl (l' := #[.val (.int P0), .val (.int P1), .val (.int P2), .val (.int P3), .val (.int P4), .val (.int ((((P0 &&& (1 : Int32)) + ((P0 >>> ((1 : Int32) &&& 31)) &&& (1 : Int32))) + ((P0 >>> ((2 : Int32) &&& 31)) &&& (1 : Int32))) + ((P0 >>> ((3 : Int32) &&& 31)) &&& (1 : Int32)))), .val (.ref b128), .val (.int (0 : Int32))]) rfl ?_
        show Steps p.tables e below (T128.setTop (mkF m 32 #[.val (.int P0), .val (.int P1), .val (.int P2), .val (.int P3), .val (.int P4), .val (.int ((((P0 &&& (1 : Int32)) + ((P0 >>> ((1 : Int32) &&& 31)) &&& (1 : Int32))) + ((P0 >>> ((2 : Int32) &&& 31)) &&& (1 : Int32))) + ((P0 >>> ((3 : Int32) &&& 31)) &&& (1 : Int32)))), .val (.ref b128), .val (.int (0 : Int32))] [])) _
        refine XS.iloadN X128.here hx rfl (hb hby d1_32) rfl ?_
        show Steps p.tables e below (T128.setTop (mkF m 33 #[.val (.int P0), .val (.int P1), .val (.int P2), .val (.int P3), .val (.int P4), .val (.int ((((P0 &&& (1 : Int32)) + ((P0 >>> ((1 : Int32) &&& 31)) &&& (1 : Int32))) + ((P0 >>> ((2 : Int32) &&& 31)) &&& (1 : Int32))) + ((P0 >>> ((3 : Int32) &&& 31)) &&& (1 : Int32)))), .val (.ref b128), .val (.int (0 : Int32))] [(.int P0)])) _
        refine XS.iconst X128.here hx rfl (hb hby d1_33) ?_
        show Steps p.tables e below (T128.setTop (mkF m 34 #[.val (.int P0), .val (.int P1), .val (.int P2), .val (.int P3), .val (.int P4), .val (.int ((((P0 &&& (1 : Int32)) + ((P0 >>> ((1 : Int32) &&& 31)) &&& (1 : Int32))) + ((P0 >>> ((2 : Int32) &&& 31)) &&& (1 : Int32))) + ((P0 >>> ((3 : Int32) &&& 31)) &&& (1 : Int32)))), .val (.ref b128), .val (.int (0 : Int32))] [(.int (1 : Int32)), (.int P0)])) _
        refine XS.iand X128.here hx rfl (hb hby d1_34) rfl ?_
        show Steps p.tables e below (T128.setTop (mkF m 35 #[.val (.int P0), .val (.int P1), .val (.int P2), .val (.int P3), .val (.int P4), .val (.int ((((P0 &&& (1 : Int32)) + ((P0 >>> ((1 : Int32) &&& 31)) &&& (1 : Int32))) + ((P0 >>> ((2 : Int32) &&& 31)) &&& (1 : Int32))) + ((P0 >>> ((3 : Int32) &&& 31)) &&& (1 : Int32)))), .val (.ref b128), .val (.int (0 : Int32))] [(.int (P0 &&& (1 : Int32)))])) _
        refine XS.ifYes X128.here hx rfl (pc0 := 35) (pc' := 47) rfl (hb hby d1_35) rfl ((if0 _ _).trans (teq (show (P0 &&& (1 : Int32)) = (0 : Int32) from (by first | decide | (rw [hk]; decide)))).1) (by decide) (by decide) ?_
        show Steps p.tables e below (T128.setTop (mkF m 47 #[.val (.int P0), .val (.int P1), .val (.int P2), .val (.int P3), .val (.int P4), .val (.int ((((P0 &&& (1 : Int32)) + ((P0 >>> ((1 : Int32) &&& 31)) &&& (1 : Int32))) + ((P0 >>> ((2 : Int32) &&& 31)) &&& (1 : Int32))) + ((P0 >>> ((3 : Int32) &&& 31)) &&& (1 : Int32)))), .val (.ref b128), .val (.int (0 : Int32))] [])) _
        refine XS.iloadN X128.here hx rfl (hb hby d1_47) rfl ?_
        show Steps p.tables e below (T128.setTop (mkF m 48 #[.val (.int P0), .val (.int P1), .val (.int P2), .val (.int P3), .val (.int P4), .val (.int ((((P0 &&& (1 : Int32)) + ((P0 >>> ((1 : Int32) &&& 31)) &&& (1 : Int32))) + ((P0 >>> ((2 : Int32) &&& 31)) &&& (1 : Int32))) + ((P0 >>> ((3 : Int32) &&& 31)) &&& (1 : Int32)))), .val (.ref b128), .val (.int (0 : Int32))] [(.int P0)])) _
        refine XS.iconst X128.here hx rfl (hb hby d1_48) ?_
        show Steps p.tables e below (T128.setTop (mkF m 49 #[.val (.int P0), .val (.int P1), .val (.int P2), .val (.int P3), .val (.int P4), .val (.int ((((P0 &&& (1 : Int32)) + ((P0 >>> ((1 : Int32) &&& 31)) &&& (1 : Int32))) + ((P0 >>> ((2 : Int32) &&& 31)) &&& (1 : Int32))) + ((P0 >>> ((3 : Int32) &&& 31)) &&& (1 : Int32)))), .val (.ref b128), .val (.int (0 : Int32))] [(.int (2 : Int32)), (.int P0)])) _
        refine XS.iand X128.here hx rfl (hb hby d1_49) rfl ?_
        show Steps p.tables e below (T128.setTop (mkF m 50 #[.val (.int P0), .val (.int P1), .val (.int P2), .val (.int P3), .val (.int P4), .val (.int ((((P0 &&& (1 : Int32)) + ((P0 >>> ((1 : Int32) &&& 31)) &&& (1 : Int32))) + ((P0 >>> ((2 : Int32) &&& 31)) &&& (1 : Int32))) + ((P0 >>> ((3 : Int32) &&& 31)) &&& (1 : Int32)))), .val (.ref b128), .val (.int (0 : Int32))] [(.int (P0 &&& (2 : Int32)))])) _
        refine XS.ifYes X128.here hx rfl (pc0 := 50) (pc' := 62) rfl (hb hby d1_50) rfl ((if0 _ _).trans (teq (show (P0 &&& (2 : Int32)) = (0 : Int32) from (by first | decide | (rw [hk]; decide)))).1) (by decide) (by decide) ?_
        show Steps p.tables e below (T128.setTop (mkF m 62 #[.val (.int P0), .val (.int P1), .val (.int P2), .val (.int P3), .val (.int P4), .val (.int ((((P0 &&& (1 : Int32)) + ((P0 >>> ((1 : Int32) &&& 31)) &&& (1 : Int32))) + ((P0 >>> ((2 : Int32) &&& 31)) &&& (1 : Int32))) + ((P0 >>> ((3 : Int32) &&& 31)) &&& (1 : Int32)))), .val (.ref b128), .val (.int (0 : Int32))] [])) _
        refine XS.iloadN X128.here hx rfl (hb hby d1_62) rfl ?_
        show Steps p.tables e below (T128.setTop (mkF m 63 #[.val (.int P0), .val (.int P1), .val (.int P2), .val (.int P3), .val (.int P4), .val (.int ((((P0 &&& (1 : Int32)) + ((P0 >>> ((1 : Int32) &&& 31)) &&& (1 : Int32))) + ((P0 >>> ((2 : Int32) &&& 31)) &&& (1 : Int32))) + ((P0 >>> ((3 : Int32) &&& 31)) &&& (1 : Int32)))), .val (.ref b128), .val (.int (0 : Int32))] [(.int P0)])) _
        refine XS.iconst X128.here hx rfl (hb hby d1_63) ?_
        show Steps p.tables e below (T128.setTop (mkF m 64 #[.val (.int P0), .val (.int P1), .val (.int P2), .val (.int P3), .val (.int P4), .val (.int ((((P0 &&& (1 : Int32)) + ((P0 >>> ((1 : Int32) &&& 31)) &&& (1 : Int32))) + ((P0 >>> ((2 : Int32) &&& 31)) &&& (1 : Int32))) + ((P0 >>> ((3 : Int32) &&& 31)) &&& (1 : Int32)))), .val (.ref b128), .val (.int (0 : Int32))] [(.int (4 : Int32)), (.int P0)])) _
        refine XS.iand X128.here hx rfl (hb hby d1_64) rfl ?_
        show Steps p.tables e below (T128.setTop (mkF m 65 #[.val (.int P0), .val (.int P1), .val (.int P2), .val (.int P3), .val (.int P4), .val (.int ((((P0 &&& (1 : Int32)) + ((P0 >>> ((1 : Int32) &&& 31)) &&& (1 : Int32))) + ((P0 >>> ((2 : Int32) &&& 31)) &&& (1 : Int32))) + ((P0 >>> ((3 : Int32) &&& 31)) &&& (1 : Int32)))), .val (.ref b128), .val (.int (0 : Int32))] [(.int (P0 &&& (4 : Int32)))])) _
        refine XS.ifNo X128.here hx rfl (hb hby d1_65) rfl ((if0 _ _).trans (feq (show ¬ ((P0 &&& (4 : Int32)) = (0 : Int32)) from (by first | decide | (rw [hk]; decide)))).1) ?_
        show Steps p.tables e below (T128.setTop (mkF m 68 #[.val (.int P0), .val (.int P1), .val (.int P2), .val (.int P3), .val (.int P4), .val (.int ((((P0 &&& (1 : Int32)) + ((P0 >>> ((1 : Int32) &&& 31)) &&& (1 : Int32))) + ((P0 >>> ((2 : Int32) &&& 31)) &&& (1 : Int32))) + ((P0 >>> ((3 : Int32) &&& 31)) &&& (1 : Int32)))), .val (.ref b128), .val (.int (0 : Int32))] [])) _
        refine XS.aload X128.here hx rfl (hb hby d1_68) rfl rfl ?_
        show Steps p.tables e below (T128.setTop (mkF m 70 #[.val (.int P0), .val (.int P1), .val (.int P2), .val (.int P3), .val (.int P4), .val (.int ((((P0 &&& (1 : Int32)) + ((P0 >>> ((1 : Int32) &&& 31)) &&& (1 : Int32))) + ((P0 >>> ((2 : Int32) &&& 31)) &&& (1 : Int32))) + ((P0 >>> ((3 : Int32) &&& 31)) &&& (1 : Int32)))), .val (.ref b128), .val (.int (0 : Int32))] [(.ref b128)])) _
        refine XS.iload X128.here hx rfl (hb hby d1_70) rfl ?_
        show Steps p.tables e below (T128.setTop (mkF m 72 #[.val (.int P0), .val (.int P1), .val (.int P2), .val (.int P3), .val (.int P4), .val (.int ((((P0 &&& (1 : Int32)) + ((P0 >>> ((1 : Int32) &&& 31)) &&& (1 : Int32))) + ((P0 >>> ((2 : Int32) &&& 31)) &&& (1 : Int32))) + ((P0 >>> ((3 : Int32) &&& 31)) &&& (1 : Int32)))), .val (.ref b128), .val (.int (0 : Int32))] [(.int (0 : Int32)), (.ref b128)])) _
        refine XS.iloadN X128.here hx rfl (hb hby d1_72) rfl ?_
        show Steps p.tables e below (T128.setTop (mkF m 73 #[.val (.int P0), .val (.int P1), .val (.int P2), .val (.int P3), .val (.int P4), .val (.int ((((P0 &&& (1 : Int32)) + ((P0 >>> ((1 : Int32) &&& 31)) &&& (1 : Int32))) + ((P0 >>> ((2 : Int32) &&& 31)) &&& (1 : Int32))) + ((P0 >>> ((3 : Int32) &&& 31)) &&& (1 : Int32)))), .val (.ref b128), .val (.int (0 : Int32))] [(.int P3), (.int (0 : Int32)), (.ref b128)])) _
        refine st131 _ ?_
        show Steps p.tables e below (T131.setTop (mkF m 74 #[.val (.int P0), .val (.int P1), .val (.int P2), .val (.int P3), .val (.int P4), .val (.int ((((P0 &&& (1 : Int32)) + ((P0 >>> ((1 : Int32) &&& 31)) &&& (1 : Int32))) + ((P0 >>> ((2 : Int32) &&& 31)) &&& (1 : Int32))) + ((P0 >>> ((3 : Int32) &&& 31)) &&& (1 : Int32)))), .val (.ref b128), .val (.int (0 : Int32))] [])) _
        refine XS.iinc X131.here hx rfl (hb hby d1_74) rfl (l' := #[.val (.int P0), .val (.int P1), .val (.int P2), .val (.int P3), .val (.int P4), .val (.int ((((P0 &&& (1 : Int32)) + ((P0 >>> ((1 : Int32) &&& 31)) &&& (1 : Int32))) + ((P0 >>> ((2 : Int32) &&& 31)) &&& (1 : Int32))) + ((P0 >>> ((3 : Int32) &&& 31)) &&& (1 : Int32)))), .val (.ref b128), .val (.int ((0 : Int32) + (1 : Int32)))]) rfl ?_
        show Steps p.tables e below (T131.setTop (mkF m 77 #[.val (.int P0), .val (.int P1), .val (.int P2), .val (.int P3), .val (.int P4), .val (.int ((((P0 &&& (1 : Int32)) + ((P0 >>> ((1 : Int32) &&& 31)) &&& (1 : Int32))) + ((P0 >>> ((2 : Int32) &&& 31)) &&& (1 : Int32))) + ((P0 >>> ((3 : Int32) &&& 31)) &&& (1 : Int32)))), .val (.ref b128), .val (.int ((0 : Int32) + (1 : Int32)))] [])) _
        refine XS.iloadN X131.here hx rfl (hb hby d1_77) rfl ?_
        show Steps p.tables e below (T131.setTop (mkF m 78 #[.val (.int P0), .val (.int P1), .val (.int P2), .val (.int P3), .val (.int P4), .val (.int ((((P0 &&& (1 : Int32)) + ((P0 >>> ((1 : Int32) &&& 31)) &&& (1 : Int32))) + ((P0 >>> ((2 : Int32) &&& 31)) &&& (1 : Int32))) + ((P0 >>> ((3 : Int32) &&& 31)) &&& (1 : Int32)))), .val (.ref b128), .val (.int ((0 : Int32) + (1 : Int32)))] [(.int P0)])) _
        refine XS.bipush X131.here hx rfl (hb hby d1_78) ?_
        show Steps p.tables e below (T131.setTop (mkF m 80 #[.val (.int P0), .val (.int P1), .val (.int P2), .val (.int P3), .val (.int P4), .val (.int ((((P0 &&& (1 : Int32)) + ((P0 >>> ((1 : Int32) &&& 31)) &&& (1 : Int32))) + ((P0 >>> ((2 : Int32) &&& 31)) &&& (1 : Int32))) + ((P0 >>> ((3 : Int32) &&& 31)) &&& (1 : Int32)))), .val (.ref b128), .val (.int ((0 : Int32) + (1 : Int32)))] [(.int (8 : Int32)), (.int P0)])) _
        refine XS.iand X131.here hx rfl (hb hby d1_80) rfl ?_
        show Steps p.tables e below (T131.setTop (mkF m 81 #[.val (.int P0), .val (.int P1), .val (.int P2), .val (.int P3), .val (.int P4), .val (.int ((((P0 &&& (1 : Int32)) + ((P0 >>> ((1 : Int32) &&& 31)) &&& (1 : Int32))) + ((P0 >>> ((2 : Int32) &&& 31)) &&& (1 : Int32))) + ((P0 >>> ((3 : Int32) &&& 31)) &&& (1 : Int32)))), .val (.ref b128), .val (.int ((0 : Int32) + (1 : Int32)))] [(.int (P0 &&& (8 : Int32)))])) _
        refine XS.ifYes X131.here hx rfl (pc0 := 81) (pc' := 94) rfl (hb hby d1_81) rfl ((if0 _ _).trans (teq (show (P0 &&& (8 : Int32)) = (0 : Int32) from (by first | decide | (rw [hk]; decide)))).1) (by decide) (by decide) ?_
        show Steps p.tables e below (T131.setTop (mkF m 94 #[.val (.int P0), .val (.int P1), .val (.int P2), .val (.int P3), .val (.int P4), .val (.int ((((P0 &&& (1 : Int32)) + ((P0 >>> ((1 : Int32) &&& 31)) &&& (1 : Int32))) + ((P0 >>> ((2 : Int32) &&& 31)) &&& (1 : Int32))) + ((P0 >>> ((3 : Int32) &&& 31)) &&& (1 : Int32)))), .val (.ref b128), .val (.int ((0 : Int32) + (1 : Int32)))] [])) _
        refine XS.aload X131.here hx rfl (hb hby d1_94) rfl rfl ?_
        exact kt)
    have hsel : (own_sel P0 P1 P2 P3 P4).map Value.int = [(.int P3)] := by rw [hk, own_sel4]; rfl
    have c134 : Exa Z h131 b128 "[I" := (EX128.wr W131)
    obtain ⟨fs, hr, hrun, hended, hW, hsame⟩ := X131.leave (v := some (.ref b128)) (fun h => by rw [Bd.returns] at h; cases h)
    refine ⟨_, _, pre133 _ ?_, hrun, hended, _, _, rfl, ?_, ⟨_, rfl⟩, hW, hsame.mono (by decide) (by decide)⟩
    · show Steps p.tables e below (T131.setTop (mkF m 96 #[.val (.int P0), .val (.int P1), .val (.int P2), .val (.int P3), .val (.int P4), .val (.int ((((P0 &&& (1 : Int32)) + ((P0 >>> ((1 : Int32) &&& 31)) &&& (1 : Int32))) + ((P0 >>> ((2 : Int32) &&& 31)) &&& (1 : Int32))) + ((P0 >>> ((3 : Int32) &&& 31)) &&& (1 : Int32)))), .val (.ref b128), .val (.int ((0 : Int32) + (1 : Int32)))] [(.ref b128)])) _
      exact retOut X131 hx Bd.returns rfl (Or.inr (Or.inr (Or.inr (Or.inr ⟨rfl, rfl, rfl⟩)))) (hb hby d1_96) hr
    · show Q1 Z P0 P1 P2 P3 P4 h0 n0 _ T131.heap _
      rw [e131]
      exact ⟨b128, k128, rfl, N131, K_132, sz_b128, c134, (by rw [hsel]; exact V131)⟩
  · obtain ⟨T135, h135, k135, X135, e135, E135, A135, EX135, st135⟩ := newPE X0 hx hZ (hw _ (List.mem_of_getElem? (i := 8) rfl)) e0 (g := (mkF m 25 #[.val (.int P0), .val (.int P1), .val (.int P2), .val (.int P3), .val (.int P4), .val (.int ((((P0 &&& (1 : Int32)) + ((P0 >>> ((1 : Int32) &&& 31)) &&& (1 : Int32))) + ((P0 >>> ((2 : Int32) &&& 31)) &&& (1 : Int32))) + ((P0 >>> ((3 : Int32) &&& 31)) &&& (1 : Int32)))), .unset, .unset] [(.int ((((P0 &&& (1 : Int32)) + ((P0 >>> ((1 : Int32) &&& 31)) &&& (1 : Int32))) + ((P0 >>> ((2 : Int32) &&& 31)) &&& (1 : Int32))) + ((P0 >>> ((3 : Int32) &&& 31)) &&& (1 : Int32))))])) rfl (hb hby d1_25) rfl (by first | decide | (rw [hk]; decide)) (cap := 4) (by first | decide | (rw [hk]; decide)) (by decide) (by decide) (by decide) (ad := "[I") (by decide)
    obtain ⟨b135, q135⟩ : ∃ z, z = h0.size := ⟨_, rfl⟩
    rw [← q135] at A135 EX135 st135
    have g_b135 : n0 ≤ b135 := Nat.le_trans Z0 (Nat.le_of_eq q135.symm)
    have sz_b135 : h0.size ≤ b135 := Nat.le_trans K_0.1 (Nat.le_of_eq q135.symm)
    have Z136 : n0 ≤ h135.size := Nat.le_trans Z0 E135.1
    have K_136 : Keep h0 h135 [] := K_0.ext E135
    have V135 : Arv Z h135 b135 k135 .int ((((P0 &&& (1 : Int32)) + ((P0 >>> ((1 : Int32) &&& 31)) &&& (1 : Int32))) + ((P0 >>> ((2 : Int32) &&& 31)) &&& (1 : Int32))) + ((P0 >>> ((3 : Int32) &&& 31)) &&& (1 : Int32))) [(.int (0 : Int32)), (.int (0 : Int32))] (.int (0 : Int32)) := (Arv.new A135 (by first | decide | (rw [hk]; decide))).pad (pad_rep [] (.int (0 : Int32)) 2)
    obtain ⟨cl137, Ar137, q137, S137, N_137, H137, G137⟩ := id V135
    have hin137 : ¬ ((0 : Int32) < 0 ∨ cl137.slots.size ≤ ((0 : Int32)).toNatClampNeg) := inb_of S137 ⟨by first | decide | (rw [hk]; decide), by first | decide | (rw [hk]; decide)⟩
    obtain ⟨T138, h138, X138, e138, W138, st138⟩ := stI X135 hx hZ e135 Ar137 (j := (0 : Int32)) hin137 (g := (mkF m 43 #[.val (.int P0), .val (.int P1), .val (.int P2), .val (.int P3), .val (.int P4), .val (.int ((((P0 &&& (1 : Int32)) + ((P0 >>> ((1 : Int32) &&& 31)) &&& (1 : Int32))) + ((P0 >>> ((2 : Int32) &&& 31)) &&& (1 : Int32))) + ((P0 >>> ((3 : Int32) &&& 31)) &&& (1 : Int32)))), .val (.ref b135), .val (.int (0 : Int32))] [(.int P1), (.int (0 : Int32)), (.ref b135)])) rfl rfl (hb hby d1_43)
    have Z139 : n0 ≤ h138.size := Nat.le_trans Z136 (Nat.le_of_eq W138.size.symm)
    have K_139 : Keep h0 h138 [] := K_136.wr W138 (Or.inr sz_b135)
    have V138 : Arv Z h138 b135 k135 .int ((((P0 &&& (1 : Int32)) + ((P0 >>> ((1 : Int32) &&& 31)) &&& (1 : Int32))) + ((P0 >>> ((2 : Int32) &&& 31)) &&& (1 : Int32))) + ((P0 >>> ((3 : Int32) &&& 31)) &&& (1 : Int32))) [(.int P1), (.int (0 : Int32))] (.int (0 : Int32)) := Arv.set Ar137 q137 S137 N_137 H137 G137 rfl W138 0 rfl (Nat.le_of_ble_eq_true rfl)
    have N138 := Fr.snoc X138 N0 g_b135
    obtain ⟨cl140, Ar140, q140, S140, N_140, H140, G140⟩ := id V138
    have hin140 : ¬ (((0 : Int32) + (1 : Int32)) < 0 ∨ cl140.slots.size ≤ (((0 : Int32) + (1 : Int32))).toNatClampNeg) := inb_of S140 ⟨by first | decide | (rw [hk]; decide), by first | decide | (rw [hk]; decide)⟩
    obtain ⟨T141, h141, X141, e141, W141, st141⟩ := stI X138 hx hZ e138 Ar140 (j := ((0 : Int32) + (1 : Int32))) hin140 (g := (mkF m 73 #[.val (.int P0), .val (.int P1), .val (.int P2), .val (.int P3), .val (.int P4), .val (.int ((((P0 &&& (1 : Int32)) + ((P0 >>> ((1 : Int32) &&& 31)) &&& (1 : Int32))) + ((P0 >>> ((2 : Int32) &&& 31)) &&& (1 : Int32))) + ((P0 >>> ((3 : Int32) &&& 31)) &&& (1 : Int32)))), .val (.ref b135), .val (.int ((0 : Int32) + (1 : Int32)))] [(.int P3), (.int ((0 : Int32) + (1 : Int32))), (.ref b135)])) rfl rfl (hb hby d1_73)
    have Z142 : n0 ≤ h141.size := Nat.le_trans Z139 (Nat.le_of_eq W141.size.symm)
    have K_142 : Keep h0 h141 [] := K_139.wr W141 (Or.inr sz_b135)
    have V141 : Arv Z h141 b135 k135 .int ((((P0 &&& (1 : Int32)) + ((P0 >>> ((1 : Int32) &&& 31)) &&& (1 : Int32))) + ((P0 >>> ((2 : Int32) &&& 31)) &&& (1 : Int32))) + ((P0 >>> ((3 : Int32) &&& 31)) &&& (1 : Int32))) [(.int P1), (.int P3)] (.int (0 : Int32)) := Arv.set Ar140 q140 S140 N_140 H140 G140 rfl W141 1 (by decide) (Nat.le_of_ble_eq_true rfl)
    have N141 := Fr.snoc X141 N138 g_b135
    have pre143 : ∀ t, Steps p.tables e below (T141.setTop (mkF m 96 #[.val (.int P0), .val (.int P1), .val (.int P2), .val (.int P3), .val (.int P4), .val (.int ((((P0 &&& (1 : Int32)) + ((P0 >>> ((1 : Int32) &&& 31)) &&& (1 : Int32))) + ((P0 >>> ((2 : Int32) &&& 31)) &&& (1 : Int32))) + ((P0 >>> ((3 : Int32) &&& 31)) &&& (1 : Int32)))), .val (.ref b135), .val (.int (((0 : Int32) + (1 : Int32)) + (1 : Int32)))] [(.ref b135)])) t → Steps p.tables e below (s₁.setTop (entryFrame m #[(.int P0), (.int P1), (.int P2), (.int P3), (.int P4)] 8)) t := fun t kt => pre0 t (by
        show Steps p.tables e below (s₁.setTop (mkF m 0 #[.val (.int P0), .val (.int P1), .val (.int P2), .val (.int P3), .val (.int P4), .unset, .unset, .unset] [])) _
        refine XS.iloadN X0.here hx rfl (hb hby d1_0) rfl ?_
        show Steps p.tables e below (s₁.setTop (mkF m 1 #[.val (.int P0), .val (.int P1), .val (.int P2), .val (.int P3), .val (.int P4), .unset, .unset, .unset] [(.int P0)])) _
        refine XS.iconst X0.here hx rfl (hb hby d1_1) ?_
        show Steps p.tables e below (s₁.setTop (mkF m 2 #[.val (.int P0), .val (.int P1), .val (.int P2), .val (.int P3), .val (.int P4), .unset, .unset, .unset] [(.int (1 : Int32)), (.int P0)])) _
        refine XS.iand X0.here hx rfl (hb hby d1_2) rfl ?_
        show Steps p.tables e below (s₁.setTop (mkF m 3 #[.val (.int P0), .val (.int P1), .val (.int P2), .val (.int P3), .val (.int P4), .unset, .unset, .unset] [(.int (P0 &&& (1 : Int32)))])) _
        refine XS.iloadN X0.here hx rfl (hb hby d1_3) rfl ?_
        show Steps p.tables e below (s₁.setTop (mkF m 4 #[.val (.int P0), .val (.int P1), .val (.int P2), .val (.int P3), .val (.int P4), .unset, .unset, .unset] [(.int P0), (.int (P0 &&& (1 : Int32)))])) _
        refine XS.iconst X0.here hx rfl (hb hby d1_4) ?_
        show Steps p.tables e below (s₁.setTop (mkF m 5 #[.val (.int P0), .val (.int P1), .val (.int P2), .val (.int P3), .val (.int P4), .unset, .unset, .unset] [(.int (1 : Int32)), (.int P0), (.int (P0 &&& (1 : Int32)))])) _
        refine XS.ishr X0.here hx rfl (hb hby d1_5) rfl ?_
        show Steps p.tables e below (s₁.setTop (mkF m 6 #[.val (.int P0), .val (.int P1), .val (.int P2), .val (.int P3), .val (.int P4), .unset, .unset, .unset] [(.int (P0 >>> ((1 : Int32) &&& 31))), (.int (P0 &&& (1 : Int32)))])) _
        refine XS.iconst X0.here hx rfl (hb hby d1_6) ?_
        show Steps p.tables e below (s₁.setTop (mkF m 7 #[.val (.int P0), .val (.int P1), .val (.int P2), .val (.int P3), .val (.int P4), .unset, .unset, .unset] [(.int (1 : Int32)), (.int (P0 >>> ((1 : Int32) &&& 31))), (.int (P0 &&& (1 : Int32)))])) _
        refine XS.iand X0.here hx rfl (hb hby d1_7) rfl ?_
        show Steps p.tables e below (s₁.setTop (mkF m 8 #[.val (.int P0), .val (.int P1), .val (.int P2), .val (.int P3), .val (.int P4), .unset, .unset, .unset] [(.int ((P0 >>> ((1 : Int32) &&& 31)) &&& (1 : Int32))), (.int (P0 &&& (1 : Int32)))])) _
        refine XS.iadd X0.here hx rfl (hb hby d1_8) rfl ?_
        show Steps p.tables e below (s₁.setTop (mkF m 9 #[.val (.int P0), .val (.int P1), .val (.int P2), .val (.int P3), .val (.int P4), .unset, .unset, .unset] [(.int ((P0 &&& (1 : Int32)) + ((P0 >>> ((1 : Int32) &&& 31)) &&& (1 : Int32))))])) _
        refine XS.iloadN X0.here hx rfl (hb hby d1_9) rfl ?_
        show Steps p.tables e below (s₁.setTop (mkF m 10 #[.val (.int P0), .val (.int P1), .val (.int P2), .val (.int P3), .val (.int P4), .unset, .unset, .unset] [(.int P0), (.int ((P0 &&& (1 : Int32)) + ((P0 >>> ((1 : Int32) &&& 31)) &&& (1 : Int32))))])) _
        refine XS.iconst X0.here hx rfl (hb hby d1_10) ?_
        show Steps p.tables e below (s₁.setTop (mkF m 11 #[.val (.int P0), .val (.int P1), .val (.int P2), .val (.int P3), .val (.int P4), .unset, .unset, .unset] [(.int (2 : Int32)), (.int P0), (.int ((P0 &&& (1 : Int32)) + ((P0 >>> ((1 : Int32) &&& 31)) &&& (1 : Int32))))])) _
        refine XS.ishr X0.here hx rfl (hb hby d1_11) rfl ?_
        show Steps p.tables e below (s₁.setTop (mkF m 12 #[.val (.int P0), .val (.int P1), .val (.int P2), .val (.int P3), .val (.int P4), .unset, .unset, .unset] [(.int (P0 >>> ((2 : Int32) &&& 31))), (.int ((P0 &&& (1 : Int32)) + ((P0 >>> ((1 : Int32) &&& 31)) &&& (1 : Int32))))])) _
        refine XS.iconst X0.here hx rfl (hb hby d1_12) ?_
        show Steps p.tables e below (s₁.setTop (mkF m 13 #[.val (.int P0), .val (.int P1), .val (.int P2), .val (.int P3), .val (.int P4), .unset, .unset, .unset] [(.int (1 : Int32)), (.int (P0 >>> ((2 : Int32) &&& 31))), (.int ((P0 &&& (1 : Int32)) + ((P0 >>> ((1 : Int32) &&& 31)) &&& (1 : Int32))))])) _
        refine XS.iand X0.here hx rfl (hb hby d1_13) rfl ?_
        show Steps p.tables e below (s₁.setTop (mkF m 14 #[.val (.int P0), .val (.int P1), .val (.int P2), .val (.int P3), .val (.int P4), .unset, .unset, .unset] [(.int ((P0 >>> ((2 : Int32) &&& 31)) &&& (1 : Int32))), (.int ((P0 &&& (1 : Int32)) + ((P0 >>> ((1 : Int32) &&& 31)) &&& (1 : Int32))))])) _
        refine XS.iadd X0.here hx rfl (hb hby d1_14) rfl ?_
        show Steps p.tables e below (s₁.setTop (mkF m 15 #[.val (.int P0), .val (.int P1), .val (.int P2), .val (.int P3), .val (.int P4), .unset, .unset, .unset] [(.int (((P0 &&& (1 : Int32)) + ((P0 >>> ((1 : Int32) &&& 31)) &&& (1 : Int32))) + ((P0 >>> ((2 : Int32) &&& 31)) &&& (1 : Int32))))])) _
        refine XS.iloadN X0.here hx rfl (hb hby d1_15) rfl ?_
        show Steps p.tables e below (s₁.setTop (mkF m 16 #[.val (.int P0), .val (.int P1), .val (.int P2), .val (.int P3), .val (.int P4), .unset, .unset, .unset] [(.int P0), (.int (((P0 &&& (1 : Int32)) + ((P0 >>> ((1 : Int32) &&& 31)) &&& (1 : Int32))) + ((P0 >>> ((2 : Int32) &&& 31)) &&& (1 : Int32))))])) _
        refine XS.iconst X0.here hx rfl (hb hby d1_16) ?_
        show Steps p.tables e below (s₁.setTop (mkF m 17 #[.val (.int P0), .val (.int P1), .val (.int P2), .val (.int P3), .val (.int P4), .unset, .unset, .unset] [(.int (3 : Int32)), (.int P0), (.int (((P0 &&& (1 : Int32)) + ((P0 >>> ((1 : Int32) &&& 31)) &&& (1 : Int32))) + ((P0 >>> ((2 : Int32) &&& 31)) &&& (1 : Int32))))])) _
        refine XS.ishr X0.here hx rfl (hb hby d1_17) rfl ?_
        show Steps p.tables e below (s₁.setTop (mkF m 18 #[.val (.int P0), .val (.int P1), .val (.int P2), .val (.int P3), .val (.int P4), .unset, .unset, .unset] [(.int (P0 >>> ((3 : Int32) &&& 31))), (.int (((P0 &&& (1 : Int32)) + ((P0 >>> ((1 : Int32) &&& 31)) &&& (1 : Int32))) + ((P0 >>> ((2 : Int32) &&& 31)) &&& (1 : Int32))))])) _
        refine XS.iconst X0.here hx rfl (hb hby d1_18) ?_
        show Steps p.tables e below (s₁.setTop (mkF m 19 #[.val (.int P0), .val (.int P1), .val (.int P2), .val (.int P3), .val (.int P4), .unset, .unset, .unset] [(.int (1 : Int32)), (.int (P0 >>> ((3 : Int32) &&& 31))), (.int (((P0 &&& (1 : Int32)) + ((P0 >>> ((1 : Int32) &&& 31)) &&& (1 : Int32))) + ((P0 >>> ((2 : Int32) &&& 31)) &&& (1 : Int32))))])) _
        refine XS.iand X0.here hx rfl (hb hby d1_19) rfl ?_
        show Steps p.tables e below (s₁.setTop (mkF m 20 #[.val (.int P0), .val (.int P1), .val (.int P2), .val (.int P3), .val (.int P4), .unset, .unset, .unset] [(.int ((P0 >>> ((3 : Int32) &&& 31)) &&& (1 : Int32))), (.int (((P0 &&& (1 : Int32)) + ((P0 >>> ((1 : Int32) &&& 31)) &&& (1 : Int32))) + ((P0 >>> ((2 : Int32) &&& 31)) &&& (1 : Int32))))])) _
        refine XS.iadd X0.here hx rfl (hb hby d1_20) rfl ?_
        show Steps p.tables e below (s₁.setTop (mkF m 21 #[.val (.int P0), .val (.int P1), .val (.int P2), .val (.int P3), .val (.int P4), .unset, .unset, .unset] [(.int ((((P0 &&& (1 : Int32)) + ((P0 >>> ((1 : Int32) &&& 31)) &&& (1 : Int32))) + ((P0 >>> ((2 : Int32) &&& 31)) &&& (1 : Int32))) + ((P0 >>> ((3 : Int32) &&& 31)) &&& (1 : Int32))))])) _
        refine XS.istore X0.here hx rfl (hb hby d1_21) rfl (l' := #[.val (.int P0), .val (.int P1), .val (.int P2), .val (.int P3), .val (.int P4), .val (.int ((((P0 &&& (1 : Int32)) + ((P0 >>> ((1 : Int32) &&& 31)) &&& (1 : Int32))) + ((P0 >>> ((2 : Int32) &&& 31)) &&& (1 : Int32))) + ((P0 >>> ((3 : Int32) &&& 31)) &&& (1 : Int32)))), .unset, .unset]) rfl ?_
        show Steps p.tables e below (s₁.setTop (mkF m 23 #[.val (.int P0), .val (.int P1), .val (.int P2), .val (.int P3), .val (.int P4), .val (.int ((((P0 &&& (1 : Int32)) + ((P0 >>> ((1 : Int32) &&& 31)) &&& (1 : Int32))) + ((P0 >>> ((2 : Int32) &&& 31)) &&& (1 : Int32))) + ((P0 >>> ((3 : Int32) &&& 31)) &&& (1 : Int32)))), .unset, .unset] [])) _
        refine XS.iload X0.here hx rfl (hb hby d1_23) rfl ?_
        show Steps p.tables e below (s₁.setTop (mkF m 25 #[.val (.int P0), .val (.int P1), .val (.int P2), .val (.int P3), .val (.int P4), .val (.int ((((P0 &&& (1 : Int32)) + ((P0 >>> ((1 : Int32) &&& 31)) &&& (1 : Int32))) + ((P0 >>> ((2 : Int32) &&& 31)) &&& (1 : Int32))) + ((P0 >>> ((3 : Int32) &&& 31)) &&& (1 : Int32)))), .unset, .unset] [(.int ((((P0 &&& (1 : Int32)) + ((P0 >>> ((1 : Int32) &&& 31)) &&& (1 : Int32))) + ((P0 >>> ((2 : Int32) &&& 31)) &&& (1 : Int32))) + ((P0 >>> ((3 : Int32) &&& 31)) &&& (1 : Int32))))])) _
        refine st135 _ ?_
        show Steps p.tables e below (T135.setTop (mkF m 27 #[.val (.int P0), .val (.int P1), .val (.int P2), .val (.int P3), .val (.int P4), .val (.int ((((P0 &&& (1 : Int32)) + ((P0 >>> ((1 : Int32) &&& 31)) &&& (1 : Int32))) + ((P0 >>> ((2 : Int32) &&& 31)) &&& (1 : Int32))) + ((P0 >>> ((3 : Int32) &&& 31)) &&& (1 : Int32)))), .unset, .unset] [(.ref b135)])) _
        refine XS.astore X135.here hx rfl (hb hby d1_27) rfl rfl (l' := #[.val (.int P0), .val (.int P1), .val (.int P2), .val (.int P3), .val (.int P4), .val (.int ((((P0 &&& (1 : Int32)) + ((P0 >>> ((1 : Int32) &&& 31)) &&& (1 : Int32))) + ((P0 >>> ((2 : Int32) &&& 31)) &&& (1 : Int32))) + ((P0 >>> ((3 : Int32) &&& 31)) &&& (1 : Int32)))), .val (.ref b135), .unset]) rfl ?_
        show Steps p.tables e below (T135.setTop (mkF m 29 #[.val (.int P0), .val (.int P1), .val (.int P2), .val (.int P3), .val (.int P4), .val (.int ((((P0 &&& (1 : Int32)) + ((P0 >>> ((1 : Int32) &&& 31)) &&& (1 : Int32))) + ((P0 >>> ((2 : Int32) &&& 31)) &&& (1 : Int32))) + ((P0 >>> ((3 : Int32) &&& 31)) &&& (1 : Int32)))), .val (.ref b135), .unset] [])) _
        refine XS.iconst X135.here hx rfl (hb hby d1_29) ?_
        show Steps p.tables e below (T135.setTop (mkF m 30 #[.val (.int P0), .val (.int P1), .val (.int P2), .val (.int P3), .val (.int P4), .val (.int ((((P0 &&& (1 : Int32)) + ((P0 >>> ((1 : Int32) &&& 31)) &&& (1 : Int32))) + ((P0 >>> ((2 : Int32) &&& 31)) &&& (1 : Int32))) + ((P0 >>> ((3 : Int32) &&& 31)) &&& (1 : Int32)))), .val (.ref b135), .unset] [(.int (0 : Int32))])) _
        refine XS.istore X135.here hx rfl (hb hby d1_30) rfl (l' := #[.val (.int P0), .val (.int P1), .val (.int P2), .val (.int P3), .val (.int P4), .val (.int ((((P0 &&& (1 : Int32)) + ((P0 >>> ((1 : Int32) &&& 31)) &&& (1 : Int32))) + ((P0 >>> ((2 : Int32) &&& 31)) &&& (1 : Int32))) + ((P0 >>> ((3 : Int32) &&& 31)) &&& (1 : Int32)))), .val (.ref b135), .val (.int (0 : Int32))]) rfl ?_
        show Steps p.tables e below (T135.setTop (mkF m 32 #[.val (.int P0), .val (.int P1), .val (.int P2), .val (.int P3), .val (.int P4), .val (.int ((((P0 &&& (1 : Int32)) + ((P0 >>> ((1 : Int32) &&& 31)) &&& (1 : Int32))) + ((P0 >>> ((2 : Int32) &&& 31)) &&& (1 : Int32))) + ((P0 >>> ((3 : Int32) &&& 31)) &&& (1 : Int32)))), .val (.ref b135), .val (.int (0 : Int32))] [])) _
        refine XS.iloadN X135.here hx rfl (hb hby d1_32) rfl ?_
        show Steps p.tables e below (T135.setTop (mkF m 33 #[.val (.int P0), .val (.int P1), .val (.int P2), .val (.int P3), .val (.int P4), .val (.int ((((P0 &&& (1 : Int32)) + ((P0 >>> ((1 : Int32) &&& 31)) &&& (1 : Int32))) + ((P0 >>> ((2 : Int32) &&& 31)) &&& (1 : Int32))) + ((P0 >>> ((3 : Int32) &&& 31)) &&& (1 : Int32)))), .val (.ref b135), .val (.int (0 : Int32))] [(.int P0)])) _
        refine XS.iconst X135.here hx rfl (hb hby d1_33) ?_
        show Steps p.tables e below (T135.setTop (mkF m 34 #[.val (.int P0), .val (.int P1), .val (.int P2), .val (.int P3), .val (.int P4), .val (.int ((((P0 &&& (1 : Int32)) + ((P0 >>> ((1 : Int32) &&& 31)) &&& (1 : Int32))) + ((P0 >>> ((2 : Int32) &&& 31)) &&& (1 : Int32))) + ((P0 >>> ((3 : Int32) &&& 31)) &&& (1 : Int32)))), .val (.ref b135), .val (.int (0 : Int32))] [(.int (1 : Int32)), (.int P0)])) _
        refine XS.iand X135.here hx rfl (hb hby d1_34) rfl ?_
        show Steps p.tables e below (T135.setTop (mkF m 35 #[.val (.int P0), .val (.int P1), .val (.int P2), .val (.int P3), .val (.int P4), .val (.int ((((P0 &&& (1 : Int32)) + ((P0 >>> ((1 : Int32) &&& 31)) &&& (1 : Int32))) + ((P0 >>> ((2 : Int32) &&& 31)) &&& (1 : Int32))) + ((P0 >>> ((3 : Int32) &&& 31)) &&& (1 : Int32)))), .val (.ref b135), .val (.int (0 : Int32))] [(.int (P0 &&& (1 : Int32)))])) _
        refine XS.ifNo X135.here hx rfl (hb hby d1_35) rfl ((if0 _ _).trans (feq (show ¬ ((P0 &&& (1 : Int32)) = (0 : Int32)) from (by first | decide | (rw [hk]; decide)))).1) ?_
        show Steps p.tables e below (T135.setTop (mkF m 38 #[.val (.int P0), .val (.int P1), .val (.int P2), .val (.int P3), .val (.int P4), .val (.int ((((P0 &&& (1 : Int32)) + ((P0 >>> ((1 : Int32) &&& 31)) &&& (1 : Int32))) + ((P0 >>> ((2 : Int32) &&& 31)) &&& (1 : Int32))) + ((P0 >>> ((3 : Int32) &&& 31)) &&& (1 : Int32)))), .val (.ref b135), .val (.int (0 : Int32))] [])) _
        refine XS.aload X135.here hx rfl (hb hby d1_38) rfl rfl ?_
        show Steps p.tables e below (T135.setTop (mkF m 40 #[.val (.int P0), .val (.int P1), .val (.int P2), .val (.int P3), .val (.int P4), .val (.int ((((P0 &&& (1 : Int32)) + ((P0 >>> ((1 : Int32) &&& 31)) &&& (1 : Int32))) + ((P0 >>> ((2 : Int32) &&& 31)) &&& (1 : Int32))) + ((P0 >>> ((3 : Int32) &&& 31)) &&& (1 : Int32)))), .val (.ref b135), .val (.int (0 : Int32))] [(.ref b135)])) _
        refine XS.iload X135.here hx rfl (hb hby d1_40) rfl ?_
        show Steps p.tables e below (T135.setTop (mkF m 42 #[.val (.int P0), .val (.int P1), .val (.int P2), .val (.int P3), .val (.int P4), .val (.int ((((P0 &&& (1 : Int32)) + ((P0 >>> ((1 : Int32) &&& 31)) &&& (1 : Int32))) + ((P0 >>> ((2 : Int32) &&& 31)) &&& (1 : Int32))) + ((P0 >>> ((3 : Int32) &&& 31)) &&& (1 : Int32)))), .val (.ref b135), .val (.int (0 : Int32))] [(.int (0 : Int32)), (.ref b135)])) _
        refine XS.iloadN X135.here hx rfl (hb hby d1_42) rfl ?_
        show Steps p.tables e below (T135.setTop (mkF m 43 #[.val (.int P0), .val (.int P1), .val (.int P2), .val (.int P3), .val (.int P4), .val (.int ((((P0 &&& (1 : Int32)) + ((P0 >>> ((1 : Int32) &&& 31)) &&& (1 : Int32))) + ((P0 >>> ((2 : Int32) &&& 31)) &&& (1 : Int32))) + ((P0 >>> ((3 : Int32) &&& 31)) &&& (1 : Int32)))), .val (.ref b135), .val (.int (0 : Int32))] [(.int P1), (.int (0 : Int32)), (.ref b135)])) _
        refine st138 _ ?_
        show Steps p.tables e below (T138.setTop (mkF m 44 #[.val (.int P0), .val (.int P1), .val (.int P2), .val (.int P3), .val (.int P4), .val (.int ((((P0 &&& (1 : Int32)) + ((P0 >>> ((1 : Int32) &&& 31)) &&& (1 : Int32))) + ((P0 >>> ((2 : Int32) &&& 31)) &&& (1 : Int32))) + ((P0 >>> ((3 : Int32) &&& 31)) &&& (1 : Int32)))), .val (.ref b135), .val (.int (0 : Int32))] [])) _
        refine XS.iinc X138.here hx rfl (hb hby d1_44) rfl (l' := #[.val (.int P0), .val (.int P1), .val (.int P2), .val (.int P3), .val (.int P4), .val (.int ((((P0 &&& (1 : Int32)) + ((P0 >>> ((1 : Int32) &&& 31)) &&& (1 : Int32))) + ((P0 >>> ((2 : Int32) &&& 31)) &&& (1 : Int32))) + ((P0 >>> ((3 : Int32) &&& 31)) &&& (1 : Int32)))), .val (.ref b135), .val (.int ((0 : Int32) + (1 : Int32)))]) rfl ?_
        show Steps p.tables e below (T138.setTop (mkF m 47 #[.val (.int P0), .val (.int P1), .val (.int P2), .val (.int P3), .val (.int P4), .val (.int ((((P0 &&& (1 : Int32)) + ((P0 >>> ((1 : Int32) &&& 31)) &&& (1 : Int32))) + ((P0 >>> ((2 : Int32) &&& 31)) &&& (1 : Int32))) + ((P0 >>> ((3 : Int32) &&& 31)) &&& (1 : Int32)))), .val (.ref b135), .val (.int ((0 : Int32) + (1 : Int32)))] [])) _
        refine XS.iloadN X138.here hx rfl (hb hby d1_47) rfl ?_
        show Steps p.tables e below (T138.setTop (mkF m 48 #[.val (.int P0), .val (.int P1), .val (.int P2), .val (.int P3), .val (.int P4), .val (.int ((((P0 &&& (1 : Int32)) + ((P0 >>> ((1 : Int32) &&& 31)) &&& (1 : Int32))) + ((P0 >>> ((2 : Int32) &&& 31)) &&& (1 : Int32))) + ((P0 >>> ((3 : Int32) &&& 31)) &&& (1 : Int32)))), .val (.ref b135), .val (.int ((0 : Int32) + (1 : Int32)))] [(.int P0)])) _
        refine XS.iconst X138.here hx rfl (hb hby d1_48) ?_
        show Steps p.tables e below (T138.setTop (mkF m 49 #[.val (.int P0), .val (.int P1), .val (.int P2), .val (.int P3), .val (.int P4), .val (.int ((((P0 &&& (1 : Int32)) + ((P0 >>> ((1 : Int32) &&& 31)) &&& (1 : Int32))) + ((P0 >>> ((2 : Int32) &&& 31)) &&& (1 : Int32))) + ((P0 >>> ((3 : Int32) &&& 31)) &&& (1 : Int32)))), .val (.ref b135), .val (.int ((0 : Int32) + (1 : Int32)))] [(.int (2 : Int32)), (.int P0)])) _
        refine XS.iand X138.here hx rfl (hb hby d1_49) rfl ?_
        show Steps p.tables e below (T138.setTop (mkF m 50 #[.val (.int P0), .val (.int P1), .val (.int P2), .val (.int P3), .val (.int P4), .val (.int ((((P0 &&& (1 : Int32)) + ((P0 >>> ((1 : Int32) &&& 31)) &&& (1 : Int32))) + ((P0 >>> ((2 : Int32) &&& 31)) &&& (1 : Int32))) + ((P0 >>> ((3 : Int32) &&& 31)) &&& (1 : Int32)))), .val (.ref b135), .val (.int ((0 : Int32) + (1 : Int32)))] [(.int (P0 &&& (2 : Int32)))])) _
        refine XS.ifYes X138.here hx rfl (pc0 := 50) (pc' := 62) rfl (hb hby d1_50) rfl ((if0 _ _).trans (teq (show (P0 &&& (2 : Int32)) = (0 : Int32) from (by first | decide | (rw [hk]; decide)))).1) (by decide) (by decide) ?_
        show Steps p.tables e below (T138.setTop (mkF m 62 #[.val (.int P0), .val (.int P1), .val (.int P2), .val (.int P3), .val (.int P4), .val (.int ((((P0 &&& (1 : Int32)) + ((P0 >>> ((1 : Int32) &&& 31)) &&& (1 : Int32))) + ((P0 >>> ((2 : Int32) &&& 31)) &&& (1 : Int32))) + ((P0 >>> ((3 : Int32) &&& 31)) &&& (1 : Int32)))), .val (.ref b135), .val (.int ((0 : Int32) + (1 : Int32)))] [])) _
        refine XS.iloadN X138.here hx rfl (hb hby d1_62) rfl ?_
        show Steps p.tables e below (T138.setTop (mkF m 63 #[.val (.int P0), .val (.int P1), .val (.int P2), .val (.int P3), .val (.int P4), .val (.int ((((P0 &&& (1 : Int32)) + ((P0 >>> ((1 : Int32) &&& 31)) &&& (1 : Int32))) + ((P0 >>> ((2 : Int32) &&& 31)) &&& (1 : Int32))) + ((P0 >>> ((3 : Int32) &&& 31)) &&& (1 : Int32)))), .val (.ref b135), .val (.int ((0 : Int32) + (1 : Int32)))] [(.int P0)])) _
        refine XS.iconst X138.here hx rfl (hb hby d1_63) ?_
        show Steps p.tables e below (T138.setTop (mkF m 64 #[.val (.int P0), .val (.int P1), .val (.int P2), .val (.int P3), .val (.int P4), .val (.int ((((P0 &&& (1 : Int32)) + ((P0 >>> ((1 : Int32) &&& 31)) &&& (1 : Int32))) + ((P0 >>> ((2 : Int32) &&& 31)) &&& (1 : Int32))) + ((P0 >>> ((3 : Int32) &&& 31)) &&& (1 : Int32)))), .val (.ref b135), .val (.int ((0 : Int32) + (1 : Int32)))] [(.int (4 : Int32)), (.int P0)])) _
        refine XS.iand X138.here hx rfl (hb hby d1_64) rfl ?_
        show Steps p.tables e below (T138.setTop (mkF m 65 #[.val (.int P0), .val (.int P1), .val (.int P2), .val (.int P3), .val (.int P4), .val (.int ((((P0 &&& (1 : Int32)) + ((P0 >>> ((1 : Int32) &&& 31)) &&& (1 : Int32))) + ((P0 >>> ((2 : Int32) &&& 31)) &&& (1 : Int32))) + ((P0 >>> ((3 : Int32) &&& 31)) &&& (1 : Int32)))), .val (.ref b135), .val (.int ((0 : Int32) + (1 : Int32)))] [(.int (P0 &&& (4 : Int32)))])) _
        refine XS.ifNo X138.here hx rfl (hb hby d1_65) rfl ((if0 _ _).trans (feq (show ¬ ((P0 &&& (4 : Int32)) = (0 : Int32)) from (by first | decide | (rw [hk]; decide)))).1) ?_
        show Steps p.tables e below (T138.setTop (mkF m 68 #[.val (.int P0), .val (.int P1), .val (.int P2), .val (.int P3), .val (.int P4), .val (.int ((((P0 &&& (1 : Int32)) + ((P0 >>> ((1 : Int32) &&& 31)) &&& (1 : Int32))) + ((P0 >>> ((2 : Int32) &&& 31)) &&& (1 : Int32))) + ((P0 >>> ((3 : Int32) &&& 31)) &&& (1 : Int32)))), .val (.ref b135), .val (.int ((0 : Int32) + (1 : Int32)))] [])) _
        refine XS.aload X138.here hx rfl (hb hby d1_68) rfl rfl ?_
        show Steps p.tables e below (T138.setTop (mkF m 70 #[.val (.int P0), .val (.int P1), .val (.int P2), .val (.int P3), .val (.int P4), .val (.int ((((P0 &&& (1 : Int32)) + ((P0 >>> ((1 : Int32) &&& 31)) &&& (1 : Int32))) + ((P0 >>> ((2 : Int32) &&& 31)) &&& (1 : Int32))) + ((P0 >>> ((3 : Int32) &&& 31)) &&& (1 : Int32)))), .val (.ref b135), .val (.int ((0 : Int32) + (1 : Int32)))] [(.ref b135)])) _
        refine XS.iload X138.here hx rfl (hb hby d1_70) rfl ?_
        show Steps p.tables e below (T138.setTop (mkF m 72 #[.val (.int P0), .val (.int P1), .val (.int P2), .val (.int P3), .val (.int P4), .val (.int ((((P0 &&& (1 : Int32)) + ((P0 >>> ((1 : Int32) &&& 31)) &&& (1 : Int32))) + ((P0 >>> ((2 : Int32) &&& 31)) &&& (1 : Int32))) + ((P0 >>> ((3 : Int32) &&& 31)) &&& (1 : Int32)))), .val (.ref b135), .val (.int ((0 : Int32) + (1 : Int32)))] [(.int ((0 : Int32) + (1 : Int32))), (.ref b135)])) _
        refine XS.iloadN X138.here hx rfl (hb hby d1_72) rfl ?_
        show Steps p.tables e below (T138.setTop (mkF m 73 #[.val (.int P0), .val (.int P1), .val (.int P2), .val (.int P3), .val (.int P4), .val (.int ((((P0 &&& (1 : Int32)) + ((P0 >>> ((1 : Int32) &&& 31)) &&& (1 : Int32))) + ((P0 >>> ((2 : Int32) &&& 31)) &&& (1 : Int32))) + ((P0 >>> ((3 : Int32) &&& 31)) &&& (1 : Int32)))), .val (.ref b135), .val (.int ((0 : Int32) + (1 : Int32)))] [(.int P3), (.int ((0 : Int32) + (1 : Int32))), (.ref b135)])) _
        refine st141 _ ?_
        show Steps p.tables e below (T141.setTop (mkF m 74 #[.val (.int P0), .val (.int P1), .val (.int P2), .val (.int P3), .val (.int P4), .val (.int ((((P0 &&& (1 : Int32)) + ((P0 >>> ((1 : Int32) &&& 31)) &&& (1 : Int32))) + ((P0 >>> ((2 : Int32) &&& 31)) &&& (1 : Int32))) + ((P0 >>> ((3 : Int32) &&& 31)) &&& (1 : Int32)))), .val (.ref b135), .val (.int ((0 : Int32) + (1 : Int32)))] [])) _
        refine XS.iinc X141.here hx rfl (hb hby d1_74) rfl (l' := #[.val (.int P0), .val (.int P1), .val (.int P2), .val (.int P3), .val (.int P4), .val (.int ((((P0 &&& (1 : Int32)) + ((P0 >>> ((1 : Int32) &&& 31)) &&& (1 : Int32))) + ((P0 >>> ((2 : Int32) &&& 31)) &&& (1 : Int32))) + ((P0 >>> ((3 : Int32) &&& 31)) &&& (1 : Int32)))), .val (.ref b135), .val (.int (((0 : Int32) + (1 : Int32)) + (1 : Int32)))]) rfl ?_
        show Steps p.tables e below (T141.setTop (mkF m 77 #[.val (.int P0), .val (.int P1), .val (.int P2), .val (.int P3), .val (.int P4), .val (.int ((((P0 &&& (1 : Int32)) + ((P0 >>> ((1 : Int32) &&& 31)) &&& (1 : Int32))) + ((P0 >>> ((2 : Int32) &&& 31)) &&& (1 : Int32))) + ((P0 >>> ((3 : Int32) &&& 31)) &&& (1 : Int32)))), .val (.ref b135), .val (.int (((0 : Int32) + (1 : Int32)) + (1 : Int32)))] [])) _
        refine XS.iloadN X141.here hx rfl (hb hby d1_77) rfl ?_
        show Steps p.tables e below (T141.setTop (mkF m 78 #[.val (.int P0), .val (.int P1), .val (.int P2), .val (.int P3), .val (.int P4), .val (.int ((((P0 &&& (1 : Int32)) + ((P0 >>> ((1 : Int32) &&& 31)) &&& (1 : Int32))) + ((P0 >>> ((2 : Int32) &&& 31)) &&& (1 : Int32))) + ((P0 >>> ((3 : Int32) &&& 31)) &&& (1 : Int32)))), .val (.ref b135), .val (.int (((0 : Int32) + (1 : Int32)) + (1 : Int32)))] [(.int P0)])) _
        refine XS.bipush X141.here hx rfl (hb hby d1_78) ?_
        show Steps p.tables e below (T141.setTop (mkF m 80 #[.val (.int P0), .val (.int P1), .val (.int P2), .val (.int P3), .val (.int P4), .val (.int ((((P0 &&& (1 : Int32)) + ((P0 >>> ((1 : Int32) &&& 31)) &&& (1 : Int32))) + ((P0 >>> ((2 : Int32) &&& 31)) &&& (1 : Int32))) + ((P0 >>> ((3 : Int32) &&& 31)) &&& (1 : Int32)))), .val (.ref b135), .val (.int (((0 : Int32) + (1 : Int32)) + (1 : Int32)))] [(.int (8 : Int32)), (.int P0)])) _
        refine XS.iand X141.here hx rfl (hb hby d1_80) rfl ?_
        show Steps p.tables e below (T141.setTop (mkF m 81 #[.val (.int P0), .val (.int P1), .val (.int P2), .val (.int P3), .val (.int P4), .val (.int ((((P0 &&& (1 : Int32)) + ((P0 >>> ((1 : Int32) &&& 31)) &&& (1 : Int32))) + ((P0 >>> ((2 : Int32) &&& 31)) &&& (1 : Int32))) + ((P0 >>> ((3 : Int32) &&& 31)) &&& (1 : Int32)))), .val (.ref b135), .val (.int (((0 : Int32) + (1 : Int32)) + (1 : Int32)))] [(.int (P0 &&& (8 : Int32)))])) _
        refine XS.ifYes X141.here hx rfl (pc0 := 81) (pc' := 94) rfl (hb hby d1_81) rfl ((if0 _ _).trans (teq (show (P0 &&& (8 : Int32)) = (0 : Int32) from (by first | decide | (rw [hk]; decide)))).1) (by decide) (by decide) ?_
        show Steps p.tables e below (T141.setTop (mkF m 94 #[.val (.int P0), .val (.int P1), .val (.int P2), .val (.int P3), .val (.int P4), .val (.int ((((P0 &&& (1 : Int32)) + ((P0 >>> ((1 : Int32) &&& 31)) &&& (1 : Int32))) + ((P0 >>> ((2 : Int32) &&& 31)) &&& (1 : Int32))) + ((P0 >>> ((3 : Int32) &&& 31)) &&& (1 : Int32)))), .val (.ref b135), .val (.int (((0 : Int32) + (1 : Int32)) + (1 : Int32)))] [])) _
        refine XS.aload X141.here hx rfl (hb hby d1_94) rfl rfl ?_
        exact kt)
    have hsel : (own_sel P0 P1 P2 P3 P4).map Value.int = [(.int P1), (.int P3)] := by rw [hk, own_sel5]; rfl
    have c144 : Exa Z h141 b135 "[I" := ((EX135.wr W138).wr W141)
    obtain ⟨fs, hr, hrun, hended, hW, hsame⟩ := X141.leave (v := some (.ref b135)) (fun h => by rw [Bd.returns] at h; cases h)
    refine ⟨_, _, pre143 _ ?_, hrun, hended, _, _, rfl, ?_, ⟨_, rfl⟩, hW, hsame.mono (by decide) (by decide)⟩
    · show Steps p.tables e below (T141.setTop (mkF m 96 #[.val (.int P0), .val (.int P1), .val (.int P2), .val (.int P3), .val (.int P4), .val (.int ((((P0 &&& (1 : Int32)) + ((P0 >>> ((1 : Int32) &&& 31)) &&& (1 : Int32))) + ((P0 >>> ((2 : Int32) &&& 31)) &&& (1 : Int32))) + ((P0 >>> ((3 : Int32) &&& 31)) &&& (1 : Int32)))), .val (.ref b135), .val (.int (((0 : Int32) + (1 : Int32)) + (1 : Int32)))] [(.ref b135)])) _
      exact retOut X141 hx Bd.returns rfl (Or.inr (Or.inr (Or.inr (Or.inr ⟨rfl, rfl, rfl⟩)))) (hb hby d1_96) hr
    · show Q1 Z P0 P1 P2 P3 P4 h0 n0 _ T141.heap _
      rw [e141]
      exact ⟨b135, k135, rfl, N141, K_142, sz_b135, c144, (by rw [hsel]; exact V141)⟩
  · obtain ⟨T145, h145, k145, X145, e145, E145, A145, EX145, st145⟩ := newPE X0 hx hZ (hw _ (List.mem_of_getElem? (i := 8) rfl)) e0 (g := (mkF m 25 #[.val (.int P0), .val (.int P1), .val (.int P2), .val (.int P3), .val (.int P4), .val (.int ((((P0 &&& (1 : Int32)) + ((P0 >>> ((1 : Int32) &&& 31)) &&& (1 : Int32))) + ((P0 >>> ((2 : Int32) &&& 31)) &&& (1 : Int32))) + ((P0 >>> ((3 : Int32) &&& 31)) &&& (1 : Int32)))), .unset, .unset] [(.int ((((P0 &&& (1 : Int32)) + ((P0 >>> ((1 : Int32) &&& 31)) &&& (1 : Int32))) + ((P0 >>> ((2 : Int32) &&& 31)) &&& (1 : Int32))) + ((P0 >>> ((3 : Int32) &&& 31)) &&& (1 : Int32))))])) rfl (hb hby d1_25) rfl (by first | decide | (rw [hk]; decide)) (cap := 4) (by first | decide | (rw [hk]; decide)) (by decide) (by decide) (by decide) (ad := "[I") (by decide)
    obtain ⟨b145, q145⟩ : ∃ z, z = h0.size := ⟨_, rfl⟩
    rw [← q145] at A145 EX145 st145
    have g_b145 : n0 ≤ b145 := Nat.le_trans Z0 (Nat.le_of_eq q145.symm)
    have sz_b145 : h0.size ≤ b145 := Nat.le_trans K_0.1 (Nat.le_of_eq q145.symm)
    have Z146 : n0 ≤ h145.size := Nat.le_trans Z0 E145.1
    have K_146 : Keep h0 h145 [] := K_0.ext E145
    have V145 : Arv Z h145 b145 k145 .int ((((P0 &&& (1 : Int32)) + ((P0 >>> ((1 : Int32) &&& 31)) &&& (1 : Int32))) + ((P0 >>> ((2 : Int32) &&& 31)) &&& (1 : Int32))) + ((P0 >>> ((3 : Int32) &&& 31)) &&& (1 : Int32))) [(.int (0 : Int32)), (.int (0 : Int32))] (.int (0 : Int32)) := (Arv.new A145 (by first | decide | (rw [hk]; decide))).pad (pad_rep [] (.int (0 : Int32)) 2)
    obtain ⟨cl147, Ar147, q147, S147, N_147, H147, G147⟩ := id V145
    have hin147 : ¬ ((0 : Int32) < 0 ∨ cl147.slots.size ≤ ((0 : Int32)).toNatClampNeg) := inb_of S147 ⟨by first | decide | (rw [hk]; decide), by first | decide | (rw [hk]; decide)⟩
    obtain ⟨T148, h148, X148, e148, W148, st148⟩ := stI X145 hx hZ e145 Ar147 (j := (0 : Int32)) hin147 (g := (mkF m 58 #[.val (.int P0), .val (.int P1), .val (.int P2), .val (.int P3), .val (.int P4), .val (.int ((((P0 &&& (1 : Int32)) + ((P0 >>> ((1 : Int32) &&& 31)) &&& (1 : Int32))) + ((P0 >>> ((2 : Int32) &&& 31)) &&& (1 : Int32))) + ((P0 >>> ((3 : Int32) &&& 31)) &&& (1 : Int32)))), .val (.ref b145), .val (.int (0 : Int32))] [(.int P2), (.int (0 : Int32)), (.ref b145)])) rfl rfl (hb hby d1_58)
    have Z149 : n0 ≤ h148.size := Nat.le_trans Z146 (Nat.le_of_eq W148.size.symm)
    have K_149 : Keep h0 h148 [] := K_146.wr W148 (Or.inr sz_b145)
    have V148 : Arv Z h148 b145 k145 .int ((((P0 &&& (1 : Int32)) + ((P0 >>> ((1 : Int32) &&& 31)) &&& (1 : Int32))) + ((P0 >>> ((2 : Int32) &&& 31)) &&& (1 : Int32))) + ((P0 >>> ((3 : Int32) &&& 31)) &&& (1 : Int32))) [(.int P2), (.int (0 : Int32))] (.int (0 : Int32)) := Arv.set Ar147 q147 S147 N_147 H147 G147 rfl W148 0 rfl (Nat.le_of_ble_eq_true rfl)
    have N148 := Fr.snoc X148 N0 g_b145
    obtain ⟨cl150, Ar150, q150, S150, N_150, H150, G150⟩ := id V148
    have hin150 : ¬ (((0 : Int32) + (1 : Int32)) < 0 ∨ cl150.slots.size ≤ (((0 : Int32) + (1 : Int32))).toNatClampNeg) := inb_of S150 ⟨by first | decide | (rw [hk]; decide), by first | decide | (rw [hk]; decide)⟩
    obtain ⟨T151, h151, X151, e151, W151, st151⟩ := stI X148 hx hZ e148 Ar150 (j := ((0 : Int32) + (1 : Int32))) hin150 (g := (mkF m 73 #[.val (.int P0), .val (.int P1), .val (.int P2), .val (.int P3), .val (.int P4), .val (.int ((((P0 &&& (1 : Int32)) + ((P0 >>> ((1 : Int32) &&& 31)) &&& (1 : Int32))) + ((P0 >>> ((2 : Int32) &&& 31)) &&& (1 : Int32))) + ((P0 >>> ((3 : Int32) &&& 31)) &&& (1 : Int32)))), .val (.ref b145), .val (.int ((0 : Int32) + (1 : Int32)))] [(.int P3), (.int ((0 : Int32) + (1 : Int32))), (.ref b145)])) rfl rfl (hb hby d1_73)
    have Z152 : n0 ≤ h151.size := Nat.le_trans Z149 (Nat.le_of_eq W151.size.symm)
    have K_152 : Keep h0 h151 [] := K_149.wr W151 (Or.inr sz_b145)
    have V151 : Arv Z h151 b145 k145 .int ((((P0 &&& (1 : Int32)) + ((P0 >>> ((1 : Int32) &&& 31)) &&& (1 : Int32))) + ((P0 >>> ((2 : Int32) &&& 31)) &&& (1 : Int32))) + ((P0 >>> ((3 : Int32) &&& 31)) &&& (1 : Int32))) [(.int P2), (.int P3)] (.int (0 : Int32)) := Arv.set Ar150 q150 S150 N_150 H150 G150 rfl W151 1 (by decide) (Nat.le_of_ble_eq_true rfl)
    have N151 := Fr.snoc X151 N148 g_b145
    have pre153 : ∀ t, Steps p.tables e below (T151.setTop (mkF m 96 #[.val (.int P0), .val (.int P1), .val (.int P2), .val (.int P3), .val (.int P4), .val (.int ((((P0 &&& (1 : Int32)) + ((P0 >>> ((1 : Int32) &&& 31)) &&& (1 : Int32))) + ((P0 >>> ((2 : Int32) &&& 31)) &&& (1 : Int32))) + ((P0 >>> ((3 : Int32) &&& 31)) &&& (1 : Int32)))), .val (.ref b145), .val (.int (((0 : Int32) + (1 : Int32)) + (1 : Int32)))] [(.ref b145)])) t → Steps p.tables e below (s₁.setTop (entryFrame m #[(.int P0), (.int P1), (.int P2), (.int P3), (.int P4)] 8)) t := fun t kt => pre0 t (by
        show Steps p.tables e below (s₁.setTop (mkF m 0 #[.val (.int P0), .val (.int P1), .val (.int P2), .val (.int P3), .val (.int P4), .unset, .unset, .unset] [])) _
        refine XS.iloadN X0.here hx rfl (hb hby d1_0) rfl ?_
        show Steps p.tables e below (s₁.setTop (mkF m 1 #[.val (.int P0), .val (.int P1), .val (.int P2), .val (.int P3), .val (.int P4), .unset, .unset, .unset] [(.int P0)])) _
        refine XS.iconst X0.here hx rfl (hb hby d1_1) ?_
        show Steps p.tables e below (s₁.setTop (mkF m 2 #[.val (.int P0), .val (.int P1), .val (.int P2), .val (.int P3), .val (.int P4), .unset, .unset, .unset] [(.int (1 : Int32)), (.int P0)])) _
        refine XS.iand X0.here hx rfl (hb hby d1_2) rfl ?_
        show Steps p.tables e below (s₁.setTop (mkF m 3 #[.val (.int P0), .val (.int P1), .val (.int P2), .val (.int P3), .val (.int P4), .unset, .unset, .unset] [(.int (P0 &&& (1 : Int32)))])) _
        refine XS.iloadN X0.here hx rfl (hb hby d1_3) rfl ?_
        show Steps p.tables e below (s₁.setTop (mkF m 4 #[.val (.int P0), .val (.int P1), .val (.int P2), .val (.int P3), .val (.int P4), .unset, .unset, .unset] [(.int P0), (.int (P0 &&& (1 : Int32)))])) _
        refine XS.iconst X0.here hx rfl (hb hby d1_4) ?_
        show Steps p.tables e below (s₁.setTop (mkF m 5 #[.val (.int P0), .val (.int P1), .val (.int P2), .val (.int P3), .val (.int P4), .unset, .unset, .unset] [(.int (1 : Int32)), (.int P0), (.int (P0 &&& (1 : Int32)))])) _
        refine XS.ishr X0.here hx rfl (hb hby d1_5) rfl ?_
        show Steps p.tables e below (s₁.setTop (mkF m 6 #[.val (.int P0), .val (.int P1), .val (.int P2), .val (.int P3), .val (.int P4), .unset, .unset, .unset] [(.int (P0 >>> ((1 : Int32) &&& 31))), (.int (P0 &&& (1 : Int32)))])) _
        refine XS.iconst X0.here hx rfl (hb hby d1_6) ?_
        show Steps p.tables e below (s₁.setTop (mkF m 7 #[.val (.int P0), .val (.int P1), .val (.int P2), .val (.int P3), .val (.int P4), .unset, .unset, .unset] [(.int (1 : Int32)), (.int (P0 >>> ((1 : Int32) &&& 31))), (.int (P0 &&& (1 : Int32)))])) _
        refine XS.iand X0.here hx rfl (hb hby d1_7) rfl ?_
        show Steps p.tables e below (s₁.setTop (mkF m 8 #[.val (.int P0), .val (.int P1), .val (.int P2), .val (.int P3), .val (.int P4), .unset, .unset, .unset] [(.int ((P0 >>> ((1 : Int32) &&& 31)) &&& (1 : Int32))), (.int (P0 &&& (1 : Int32)))])) _
        refine XS.iadd X0.here hx rfl (hb hby d1_8) rfl ?_
        show Steps p.tables e below (s₁.setTop (mkF m 9 #[.val (.int P0), .val (.int P1), .val (.int P2), .val (.int P3), .val (.int P4), .unset, .unset, .unset] [(.int ((P0 &&& (1 : Int32)) + ((P0 >>> ((1 : Int32) &&& 31)) &&& (1 : Int32))))])) _
        refine XS.iloadN X0.here hx rfl (hb hby d1_9) rfl ?_
        show Steps p.tables e below (s₁.setTop (mkF m 10 #[.val (.int P0), .val (.int P1), .val (.int P2), .val (.int P3), .val (.int P4), .unset, .unset, .unset] [(.int P0), (.int ((P0 &&& (1 : Int32)) + ((P0 >>> ((1 : Int32) &&& 31)) &&& (1 : Int32))))])) _
        refine XS.iconst X0.here hx rfl (hb hby d1_10) ?_
        show Steps p.tables e below (s₁.setTop (mkF m 11 #[.val (.int P0), .val (.int P1), .val (.int P2), .val (.int P3), .val (.int P4), .unset, .unset, .unset] [(.int (2 : Int32)), (.int P0), (.int ((P0 &&& (1 : Int32)) + ((P0 >>> ((1 : Int32) &&& 31)) &&& (1 : Int32))))])) _
        refine XS.ishr X0.here hx rfl (hb hby d1_11) rfl ?_
        show Steps p.tables e below (s₁.setTop (mkF m 12 #[.val (.int P0), .val (.int P1), .val (.int P2), .val (.int P3), .val (.int P4), .unset, .unset, .unset] [(.int (P0 >>> ((2 : Int32) &&& 31))), (.int ((P0 &&& (1 : Int32)) + ((P0 >>> ((1 : Int32) &&& 31)) &&& (1 : Int32))))])) _
        refine XS.iconst X0.here hx rfl (hb hby d1_12) ?_
        show Steps p.tables e below (s₁.setTop (mkF m 13 #[.val (.int P0), .val (.int P1), .val (.int P2), .val (.int P3), .val (.int P4), .unset, .unset, .unset] [(.int (1 : Int32)), (.int (P0 >>> ((2 : Int32) &&& 31))), (.int ((P0 &&& (1 : Int32)) + ((P0 >>> ((1 : Int32) &&& 31)) &&& (1 : Int32))))])) _
        refine XS.iand X0.here hx rfl (hb hby d1_13) rfl ?_
        show Steps p.tables e below (s₁.setTop (mkF m 14 #[.val (.int P0), .val (.int P1), .val (.int P2), .val (.int P3), .val (.int P4), .unset, .unset, .unset] [(.int ((P0 >>> ((2 : Int32) &&& 31)) &&& (1 : Int32))), (.int ((P0 &&& (1 : Int32)) + ((P0 >>> ((1 : Int32) &&& 31)) &&& (1 : Int32))))])) _
        refine XS.iadd X0.here hx rfl (hb hby d1_14) rfl ?_
        show Steps p.tables e below (s₁.setTop (mkF m 15 #[.val (.int P0), .val (.int P1), .val (.int P2), .val (.int P3), .val (.int P4), .unset, .unset, .unset] [(.int (((P0 &&& (1 : Int32)) + ((P0 >>> ((1 : Int32) &&& 31)) &&& (1 : Int32))) + ((P0 >>> ((2 : Int32) &&& 31)) &&& (1 : Int32))))])) _
        refine XS.iloadN X0.here hx rfl (hb hby d1_15) rfl ?_
        show Steps p.tables e below (s₁.setTop (mkF m 16 #[.val (.int P0), .val (.int P1), .val (.int P2), .val (.int P3), .val (.int P4), .unset, .unset, .unset] [(.int P0), (.int (((P0 &&& (1 : Int32)) + ((P0 >>> ((1 : Int32) &&& 31)) &&& (1 : Int32))) + ((P0 >>> ((2 : Int32) &&& 31)) &&& (1 : Int32))))])) _
        refine XS.iconst X0.here hx rfl (hb hby d1_16) ?_
        show Steps p.tables e below (s₁.setTop (mkF m 17 #[.val (.int P0), .val (.int P1), .val (.int P2), .val (.int P3), .val (.int P4), .unset, .unset, .unset] [(.int (3 : Int32)), (.int P0), (.int (((P0 &&& (1 : Int32)) + ((P0 >>> ((1 : Int32) &&& 31)) &&& (1 : Int32))) + ((P0 >>> ((2 : Int32) &&& 31)) &&& (1 : Int32))))])) _
        refine XS.ishr X0.here hx rfl (hb hby d1_17) rfl ?_
        show Steps p.tables e below (s₁.setTop (mkF m 18 #[.val (.int P0), .val (.int P1), .val (.int P2), .val (.int P3), .val (.int P4), .unset, .unset, .unset] [(.int (P0 >>> ((3 : Int32) &&& 31))), (.int (((P0 &&& (1 : Int32)) + ((P0 >>> ((1 : Int32) &&& 31)) &&& (1 : Int32))) + ((P0 >>> ((2 : Int32) &&& 31)) &&& (1 : Int32))))])) _
        refine XS.iconst X0.here hx rfl (hb hby d1_18) ?_
        show Steps p.tables e below (s₁.setTop (mkF m 19 #[.val (.int P0), .val (.int P1), .val (.int P2), .val (.int P3), .val (.int P4), .unset, .unset, .unset] [(.int (1 : Int32)), (.int (P0 >>> ((3 : Int32) &&& 31))), (.int (((P0 &&& (1 : Int32)) + ((P0 >>> ((1 : Int32) &&& 31)) &&& (1 : Int32))) + ((P0 >>> ((2 : Int32) &&& 31)) &&& (1 : Int32))))])) _
        refine XS.iand X0.here hx rfl (hb hby d1_19) rfl ?_
        show Steps p.tables e below (s₁.setTop (mkF m 20 #[.val (.int P0), .val (.int P1), .val (.int P2), .val (.int P3), .val (.int P4), .unset, .unset, .unset] [(.int ((P0 >>> ((3 : Int32) &&& 31)) &&& (1 : Int32))), (.int (((P0 &&& (1 : Int32)) + ((P0 >>> ((1 : Int32) &&& 31)) &&& (1 : Int32))) + ((P0 >>> ((2 : Int32) &&& 31)) &&& (1 : Int32))))])) _
        refine XS.iadd X0.here hx rfl (hb hby d1_20) rfl ?_
        show Steps p.tables e below (s₁.setTop (mkF m 21 #[.val (.int P0), .val (.int P1), .val (.int P2), .val (.int P3), .val (.int P4), .unset, .unset, .unset] [(.int ((((P0 &&& (1 : Int32)) + ((P0 >>> ((1 : Int32) &&& 31)) &&& (1 : Int32))) + ((P0 >>> ((2 : Int32) &&& 31)) &&& (1 : Int32))) + ((P0 >>> ((3 : Int32) &&& 31)) &&& (1 : Int32))))])) _
        refine XS.istore X0.here hx rfl (hb hby d1_21) rfl (l' := #[.val (.int P0), .val (.int P1), .val (.int P2), .val (.int P3), .val (.int P4), .val (.int ((((P0 &&& (1 : Int32)) + ((P0 >>> ((1 : Int32) &&& 31)) &&& (1 : Int32))) + ((P0 >>> ((2 : Int32) &&& 31)) &&& (1 : Int32))) + ((P0 >>> ((3 : Int32) &&& 31)) &&& (1 : Int32)))), .unset, .unset]) rfl ?_
        show Steps p.tables e below (s₁.setTop (mkF m 23 #[.val (.int P0), .val (.int P1), .val (.int P2), .val (.int P3), .val (.int P4), .val (.int ((((P0 &&& (1 : Int32)) + ((P0 >>> ((1 : Int32) &&& 31)) &&& (1 : Int32))) + ((P0 >>> ((2 : Int32) &&& 31)) &&& (1 : Int32))) + ((P0 >>> ((3 : Int32) &&& 31)) &&& (1 : Int32)))), .unset, .unset] [])) _
        refine XS.iload X0.here hx rfl (hb hby d1_23) rfl ?_
        show Steps p.tables e below (s₁.setTop (mkF m 25 #[.val (.int P0), .val (.int P1), .val (.int P2), .val (.int P3), .val (.int P4), .val (.int ((((P0 &&& (1 : Int32)) + ((P0 >>> ((1 : Int32) &&& 31)) &&& (1 : Int32))) + ((P0 >>> ((2 : Int32) &&& 31)) &&& (1 : Int32))) + ((P0 >>> ((3 : Int32) &&& 31)) &&& (1 : Int32)))), .unset, .unset] [(.int ((((P0 &&& (1 : Int32)) + ((P0 >>> ((1 : Int32) &&& 31)) &&& (1 : Int32))) + ((P0 >>> ((2 : Int32) &&& 31)) &&& (1 : Int32))) + ((P0 >>> ((3 : Int32) &&& 31)) &&& (1 : Int32))))])) _
        refine st145 _ ?_
        show Steps p.tables e below (T145.setTop (mkF m 27 #[.val (.int P0), .val (.int P1), .val (.int P2), .val (.int P3), .val (.int P4), .val (.int ((((P0 &&& (1 : Int32)) + ((P0 >>> ((1 : Int32) &&& 31)) &&& (1 : Int32))) + ((P0 >>> ((2 : Int32) &&& 31)) &&& (1 : Int32))) + ((P0 >>> ((3 : Int32) &&& 31)) &&& (1 : Int32)))), .unset, .unset] [(.ref b145)])) _
        refine XS.astore X145.here hx rfl (hb hby d1_27) rfl rfl (l' := #[.val (.int P0), .val (.int P1), .val (.int P2), .val (.int P3), .val (.int P4), .val (.int ((((P0 &&& (1 : Int32)) + ((P0 >>> ((1 : Int32) &&& 31)) &&& (1 : Int32))) + ((P0 >>> ((2 : Int32) &&& 31)) &&& (1 : Int32))) + ((P0 >>> ((3 : Int32) &&& 31)) &&& (1 : Int32)))), .val (.ref b145), .unset]) rfl ?_
        show Steps p.tables e below (T145.setTop (mkF m 29 #[.val (.int P0), .val (.int P1), .val (.int P2), .val (.int P3), .val (.int P4), .val (.int ((((P0 &&& (1 : Int32)) + ((P0 >>> ((1 : Int32) &&& 31)) &&& (1 : Int32))) + ((P0 >>> ((2 : Int32) &&& 31)) &&& (1 : Int32))) + ((P0 >>> ((3 : Int32) &&& 31)) &&& (1 : Int32)))), .val (.ref b145), .unset] [])) _
        refine XS.iconst X145.here hx rfl (hb hby d1_29) ?_
        show Steps p.tables e below (T145.setTop (mkF m 30 #[.val (.int P0), .val (.int P1), .val (.int P2), .val (.int P3), .val (.int P4), .val (.int ((((P0 &&& (1 : Int32)) + ((P0 >>> ((1 : Int32) &&& 31)) &&& (1 : Int32))) + ((P0 >>> ((2 : Int32) &&& 31)) &&& (1 : Int32))) + ((P0 >>> ((3 : Int32) &&& 31)) &&& (1 : Int32)))), .val (.ref b145), .unset] [(.int (0 : Int32))])) _
        refine XS.istore X145.here hx rfl (hb hby d1_30) rfl (l' := #[.val (.int P0), .val (.int P1), .val (.int P2), .val (.int P3), .val (.int P4), .val (.int ((((P0 &&& (1 : Int32)) + ((P0 >>> ((1 : Int32) &&& 31)) &&& (1 : Int32))) + ((P0 >>> ((2 : Int32) &&& 31)) &&& (1 : Int32))) + ((P0 >>> ((3 : Int32) &&& 31)) &&& (1 : Int32)))), .val (.ref b145), .val (.int (0 : Int32))]) rfl ?_
        show Steps p.tables e below (T145.setTop (mkF m 32 #[.val (.int P0), .val (.int P1), .val (.int P2), .val (.int P3), .val (.int P4), .val (.int ((((P0 &&& (1 : Int32)) + ((P0 >>> ((1 : Int32) &&& 31)) &&& (1 : Int32))) + ((P0 >>> ((2 : Int32) &&& 31)) &&& (1 : Int32))) + ((P0 >>> ((3 : Int32) &&& 31)) &&& (1 : Int32)))), .val (.ref b145), .val (.int (0 : Int32))] [])) _
        refine XS.iloadN X145.here hx rfl (hb hby d1_32) rfl ?_
        show Steps p.tables e below (T145.setTop (mkF m 33 #[.val (.int P0), .val (.int P1), .val (.int P2), .val (.int P3), .val (.int P4), .val (.int ((((P0 &&& (1 : Int32)) + ((P0 >>> ((1 : Int32) &&& 31)) &&& (1 : Int32))) + ((P0 >>> ((2 : Int32) &&& 31)) &&& (1 : Int32))) + ((P0 >>> ((3 : Int32) &&& 31)) &&& (1 : Int32)))), .val (.ref b145), .val (.int (0 : Int32))] [(.int P0)])) _
        refine XS.iconst X145.here hx rfl (hb hby d1_33) ?_
        show Steps p.tables e below (T145.setTop (mkF m 34 #[.val (.int P0), .val (.int P1), .val (.int P2), .val (.int P3), .val (.int P4), .val (.int ((((P0 &&& (1 : Int32)) + ((P0 >>> ((1 : Int32) &&& 31)) &&& (1 : Int32))) + ((P0 >>> ((2 : Int32) &&& 31)) &&& (1 : Int32))) + ((P0 >>> ((3 : Int32) &&& 31)) &&& (1 : Int32)))), .val (.ref b145), .val (.int (0 : Int32))] [(.int (1 : Int32)), (.int P0)])) _
        refine XS.iand X145.here hx rfl (hb hby d1_34) rfl ?_
        show Steps p.tables e below (T145.setTop (mkF m 35 #[.val (.int P0), .val (.int P1), .val (.int P2), .val (.int P3), .val (.int P4), .val (.int ((((P0 &&& (1 : Int32)) + ((P0 >>> ((1 : Int32) &&& 31)) &&& (1 : Int32))) + ((P0 >>> ((2 : Int32) &&& 31)) &&& (1 : Int32))) + ((P0 >>> ((3 : Int32) &&& 31)) &&& (1 : Int32)))), .val (.ref b145), .val (.int (0 : Int32))] [(.int (P0 &&& (1 : Int32)))])) _
        refine XS.ifYes X145.here hx rfl (pc0 := 35) (pc' := 47) rfl (hb hby d1_35) rfl ((if0 _ _).trans (teq (show (P0 &&& (1 : Int32)) = (0 : Int32) from (by first | decide | (rw [hk]; decide)))).1) (by decide) (by decide) ?_
        show Steps p.tables e below (T145.setTop (mkF m 47 #[.val (.int P0), .val (.int P1), .val (.int P2), .val (.int P3), .val (.int P4), .val (.int ((((P0 &&& (1 : Int32)) + ((P0 >>> ((1 : Int32) &&& 31)) &&& (1 : Int32))) + ((P0 >>> ((2 : Int32) &&& 31)) &&& (1 : Int32))) + ((P0 >>> ((3 : Int32) &&& 31)) &&& (1 : Int32)))), .val (.ref b145), .val (.int (0 : Int32))] [])) _
        refine XS.iloadN X145.here hx rfl (hb hby d1_47) rfl ?_
        show Steps p.tables e below (T145.setTop (mkF m 48 #[.val (.int P0), .val (.int P1), .val (.int P2), .val (.int P3), .val (.int P4), .val (.int ((((P0 &&& (1 : Int32)) + ((P0 >>> ((1 : Int32) &&& 31)) &&& (1 : Int32))) + ((P0 >>> ((2 : Int32) &&& 31)) &&& (1 : Int32))) + ((P0 >>> ((3 : Int32) &&& 31)) &&& (1 : Int32)))), .val (.ref b145), .val (.int (0 : Int32))] [(.int P0)])) _
        refine XS.iconst X145.here hx rfl (hb hby d1_48) ?_
        show Steps p.tables e below (T145.setTop (mkF m 49 #[.val (.int P0), .val (.int P1), .val (.int P2), .val (.int P3), .val (.int P4), .val (.int ((((P0 &&& (1 : Int32)) + ((P0 >>> ((1 : Int32) &&& 31)) &&& (1 : Int32))) + ((P0 >>> ((2 : Int32) &&& 31)) &&& (1 : Int32))) + ((P0 >>> ((3 : Int32) &&& 31)) &&& (1 : Int32)))), .val (.ref b145), .val (.int (0 : Int32))] [(.int (2 : Int32)), (.int P0)])) _
        refine XS.iand X145.here hx rfl (hb hby d1_49) rfl ?_
        show Steps p.tables e below (T145.setTop (mkF m 50 #[.val (.int P0), .val (.int P1), .val (.int P2), .val (.int P3), .val (.int P4), .val (.int ((((P0 &&& (1 : Int32)) + ((P0 >>> ((1 : Int32) &&& 31)) &&& (1 : Int32))) + ((P0 >>> ((2 : Int32) &&& 31)) &&& (1 : Int32))) + ((P0 >>> ((3 : Int32) &&& 31)) &&& (1 : Int32)))), .val (.ref b145), .val (.int (0 : Int32))] [(.int (P0 &&& (2 : Int32)))])) _
        refine XS.ifNo X145.here hx rfl (hb hby d1_50) rfl ((if0 _ _).trans (feq (show ¬ ((P0 &&& (2 : Int32)) = (0 : Int32)) from (by first | decide | (rw [hk]; decide)))).1) ?_
        show Steps p.tables e below (T145.setTop (mkF m 53 #[.val (.int P0), .val (.int P1), .val (.int P2), .val (.int P3), .val (.int P4), .val (.int ((((P0 &&& (1 : Int32)) + ((P0 >>> ((1 : Int32) &&& 31)) &&& (1 : Int32))) + ((P0 >>> ((2 : Int32) &&& 31)) &&& (1 : Int32))) + ((P0 >>> ((3 : Int32) &&& 31)) &&& (1 : Int32)))), .val (.ref b145), .val (.int (0 : Int32))] [])) _
        refine XS.aload X145.here hx rfl (hb hby d1_53) rfl rfl ?_
        show Steps p.tables e below (T145.setTop (mkF m 55 #[.val (.int P0), .val (.int P1), .val (.int P2), .val (.int P3), .val (.int P4), .val (.int ((((P0 &&& (1 : Int32)) + ((P0 >>> ((1 : Int32) &&& 31)) &&& (1 : Int32))) + ((P0 >>> ((2 : Int32) &&& 31)) &&& (1 : Int32))) + ((P0 >>> ((3 : Int32) &&& 31)) &&& (1 : Int32)))), .val (.ref b145), .val (.int (0 : Int32))] [(.ref b145)])) _
        refine XS.iload X145.here hx rfl (hb hby d1_55) rfl ?_
        show Steps p.tables e below (T145.setTop (mkF m 57 #[.val (.int P0), .val (.int P1), .val (.int P2), .val (.int P3), .val (.int P4), .val (.int ((((P0 &&& (1 : Int32)) + ((P0 >>> ((1 : Int32) &&& 31)) &&& (1 : Int32))) + ((P0 >>> ((2 : Int32) &&& 31)) &&& (1 : Int32))) + ((P0 >>> ((3 : Int32) &&& 31)) &&& (1 : Int32)))), .val (.ref b145), .val (.int (0 : Int32))] [(.int (0 : Int32)), (.ref b145)])) _
        refine XS.iloadN X145.here hx rfl (hb hby d1_57) rfl ?_
        show Steps p.tables e below (T145.setTop (mkF m 58 #[.val (.int P0), .val (.int P1), .val (.int P2), .val (.int P3), .val (.int P4), .val (.int ((((P0 &&& (1 : Int32)) + ((P0 >>> ((1 : Int32) &&& 31)) &&& (1 : Int32))) + ((P0 >>> ((2 : Int32) &&& 31)) &&& (1 : Int32))) + ((P0 >>> ((3 : Int32) &&& 31)) &&& (1 : Int32)))), .val (.ref b145), .val (.int (0 : Int32))] [(.int P2), (.int (0 : Int32)), (.ref b145)])) _
        refine st148 _ ?_
        show Steps p.tables e below (T148.setTop (mkF m 59 #[.val (.int P0), .val (.int P1), .val (.int P2), .val (.int P3), .val (.int P4), .val (.int ((((P0 &&& (1 : Int32)) + ((P0 >>> ((1 : Int32) &&& 31)) &&& (1 : Int32))) + ((P0 >>> ((2 : Int32) &&& 31)) &&& (1 : Int32))) + ((P0 >>> ((3 : Int32) &&& 31)) &&& (1 : Int32)))), .val (.ref b145), .val (.int (0 : Int32))] [])) _
        refine XS.iinc X148.here hx rfl (hb hby d1_59) rfl (l' := #[.val (.int P0), .val (.int P1), .val (.int P2), .val (.int P3), .val (.int P4), .val (.int ((((P0 &&& (1 : Int32)) + ((P0 >>> ((1 : Int32) &&& 31)) &&& (1 : Int32))) + ((P0 >>> ((2 : Int32) &&& 31)) &&& (1 : Int32))) + ((P0 >>> ((3 : Int32) &&& 31)) &&& (1 : Int32)))), .val (.ref b145), .val (.int ((0 : Int32) + (1 : Int32)))]) rfl ?_
        show Steps p.tables e below (T148.setTop (mkF m 62 #[.val (.int P0), .val (.int P1), .val (.int P2), .val (.int P3), .val (.int P4), .val (.int ((((P0 &&& (1 : Int32)) + ((P0 >>> ((1 : Int32) &&& 31)) &&& (1 : Int32))) + ((P0 >>> ((2 : Int32) &&& 31)) &&& (1 : Int32))) + ((P0 >>> ((3 : Int32) &&& 31)) &&& (1 : Int32)))), .val (.ref b145), .val (.int ((0 : Int32) + (1 : Int32)))] [])) _
        refine XS.iloadN X148.here hx rfl (hb hby d1_62) rfl ?_
        show Steps p.tables e below (T148.setTop (mkF m 63 #[.val (.int P0), .val (.int P1), .val (.int P2), .val (.int P3), .val (.int P4), .val (.int ((((P0 &&& (1 : Int32)) + ((P0 >>> ((1 : Int32) &&& 31)) &&& (1 : Int32))) + ((P0 >>> ((2 : Int32) &&& 31)) &&& (1 : Int32))) + ((P0 >>> ((3 : Int32) &&& 31)) &&& (1 : Int32)))), .val (.ref b145), .val (.int ((0 : Int32) + (1 : Int32)))] [(.int P0)])) _
        refine XS.iconst X148.here hx rfl (hb hby d1_63) ?_
        show Steps p.tables e below (T148.setTop (mkF m 64 #[.val (.int P0), .val (.int P1), .val (.int P2), .val (.int P3), .val (.int P4), .val (.int ((((P0 &&& (1 : Int32)) + ((P0 >>> ((1 : Int32) &&& 31)) &&& (1 : Int32))) + ((P0 >>> ((2 : Int32) &&& 31)) &&& (1 : Int32))) + ((P0 >>> ((3 : Int32) &&& 31)) &&& (1 : Int32)))), .val (.ref b145), .val (.int ((0 : Int32) + (1 : Int32)))] [(.int (4 : Int32)), (.int P0)])) _
        refine XS.iand X148.here hx rfl (hb hby d1_64) rfl ?_
        show Steps p.tables e below (T148.setTop (mkF m 65 #[.val (.int P0), .val (.int P1), .val (.int P2), .val (.int P3), .val (.int P4), .val (.int ((((P0 &&& (1 : Int32)) + ((P0 >>> ((1 : Int32) &&& 31)) &&& (1 : Int32))) + ((P0 >>> ((2 : Int32) &&& 31)) &&& (1 : Int32))) + ((P0 >>> ((3 : Int32) &&& 31)) &&& (1 : Int32)))), .val (.ref b145), .val (.int ((0 : Int32) + (1 : Int32)))] [(.int (P0 &&& (4 : Int32)))])) _
        refine XS.ifNo X148.here hx rfl (hb hby d1_65) rfl ((if0 _ _).trans (feq (show ¬ ((P0 &&& (4 : Int32)) = (0 : Int32)) from (by first | decide | (rw [hk]; decide)))).1) ?_
        show Steps p.tables e below (T148.setTop (mkF m 68 #[.val (.int P0), .val (.int P1), .val (.int P2), .val (.int P3), .val (.int P4), .val (.int ((((P0 &&& (1 : Int32)) + ((P0 >>> ((1 : Int32) &&& 31)) &&& (1 : Int32))) + ((P0 >>> ((2 : Int32) &&& 31)) &&& (1 : Int32))) + ((P0 >>> ((3 : Int32) &&& 31)) &&& (1 : Int32)))), .val (.ref b145), .val (.int ((0 : Int32) + (1 : Int32)))] [])) _
        refine XS.aload X148.here hx rfl (hb hby d1_68) rfl rfl ?_
        show Steps p.tables e below (T148.setTop (mkF m 70 #[.val (.int P0), .val (.int P1), .val (.int P2), .val (.int P3), .val (.int P4), .val (.int ((((P0 &&& (1 : Int32)) + ((P0 >>> ((1 : Int32) &&& 31)) &&& (1 : Int32))) + ((P0 >>> ((2 : Int32) &&& 31)) &&& (1 : Int32))) + ((P0 >>> ((3 : Int32) &&& 31)) &&& (1 : Int32)))), .val (.ref b145), .val (.int ((0 : Int32) + (1 : Int32)))] [(.ref b145)])) _
        refine XS.iload X148.here hx rfl (hb hby d1_70) rfl ?_
        show Steps p.tables e below (T148.setTop (mkF m 72 #[.val (.int P0), .val (.int P1), .val (.int P2), .val (.int P3), .val (.int P4), .val (.int ((((P0 &&& (1 : Int32)) + ((P0 >>> ((1 : Int32) &&& 31)) &&& (1 : Int32))) + ((P0 >>> ((2 : Int32) &&& 31)) &&& (1 : Int32))) + ((P0 >>> ((3 : Int32) &&& 31)) &&& (1 : Int32)))), .val (.ref b145), .val (.int ((0 : Int32) + (1 : Int32)))] [(.int ((0 : Int32) + (1 : Int32))), (.ref b145)])) _
        refine XS.iloadN X148.here hx rfl (hb hby d1_72) rfl ?_
        show Steps p.tables e below (T148.setTop (mkF m 73 #[.val (.int P0), .val (.int P1), .val (.int P2), .val (.int P3), .val (.int P4), .val (.int ((((P0 &&& (1 : Int32)) + ((P0 >>> ((1 : Int32) &&& 31)) &&& (1 : Int32))) + ((P0 >>> ((2 : Int32) &&& 31)) &&& (1 : Int32))) + ((P0 >>> ((3 : Int32) &&& 31)) &&& (1 : Int32)))), .val (.ref b145), .val (.int ((0 : Int32) + (1 : Int32)))] [(.int P3), (.int ((0 : Int32) + (1 : Int32))), (.ref b145)])) _
        refine st151 _ ?_
        show Steps p.tables e below (T151.setTop (mkF m 74 #[.val (.int P0), .val (.int P1), .val (.int P2), .val (.int P3), .val (.int P4), .val (.int ((((P0 &&& (1 : Int32)) + ((P0 >>> ((1 : Int32) &&& 31)) &&& (1 : Int32))) + ((P0 >>> ((2 : Int32) &&& 31)) &&& (1 : Int32))) + ((P0 >>> ((3 : Int32) &&& 31)) &&& (1 : Int32)))), .val (.ref b145), .val (.int ((0 : Int32) + (1 : Int32)))] [])) _
        refine XS.iinc X151.here hx rfl (hb hby d1_74) rfl (l' := #[.val (.int P0), .val (.int P1), .val (.int P2), .val (.int P3), .val (.int P4), .val (.int ((((P0 &&& (1 : Int32)) + ((P0 >>> ((1 : Int32) &&& 31)) &&& (1 : Int32))) + ((P0 >>> ((2 : Int32) &&& 31)) &&& (1 : Int32))) + ((P0 >>> ((3 : Int32) &&& 31)) &&& (1 : Int32)))), .val (.ref b145), .val (.int (((0 : Int32) + (1 : Int32)) + (1 : Int32)))]) rfl ?_
        show Steps p.tables e below (T151.setTop (mkF m 77 #[.val (.int P0), .val (.int P1), .val (.int P2), .val (.int P3), .val (.int P4), .val (.int ((((P0 &&& (1 : Int32)) + ((P0 >>> ((1 : Int32) &&& 31)) &&& (1 : Int32))) + ((P0 >>> ((2 : Int32) &&& 31)) &&& (1 : Int32))) + ((P0 >>> ((3 : Int32) &&& 31)) &&& (1 : Int32)))), .val (.ref b145), .val (.int (((0 : Int32) + (1 : Int32)) + (1 : Int32)))] [])) _
        refine XS.iloadN X151.here hx rfl (hb hby d1_77) rfl ?_
        show Steps p.tables e below (T151.setTop (mkF m 78 #[.val (.int P0), .val (.int P1), .val (.int P2), .val (.int P3), .val (.int P4), .val (.int ((((P0 &&& (1 : Int32)) + ((P0 >>> ((1 : Int32) &&& 31)) &&& (1 : Int32))) + ((P0 >>> ((2 : Int32) &&& 31)) &&& (1 : Int32))) + ((P0 >>> ((3 : Int32) &&& 31)) &&& (1 : Int32)))), .val (.ref b145), .val (.int (((0 : Int32) + (1 : Int32)) + (1 : Int32)))] [(.int P0)])) _
        refine XS.bipush X151.here hx rfl (hb hby d1_78) ?_
        show Steps p.tables e below (T151.setTop (mkF m 80 #[.val (.int P0), .val (.int P1), .val (.int P2), .val (.int P3), .val (.int P4), .val (.int ((((P0 &&& (1 : Int32)) + ((P0 >>> ((1 : Int32) &&& 31)) &&& (1 : Int32))) + ((P0 >>> ((2 : Int32) &&& 31)) &&& (1 : Int32))) + ((P0 >>> ((3 : Int32) &&& 31)) &&& (1 : Int32)))), .val (.ref b145), .val (.int (((0 : Int32) + (1 : Int32)) + (1 : Int32)))] [(.int (8 : Int32)), (.int P0)])) _
        refine XS.iand X151.here hx rfl (hb hby d1_80) rfl ?_
        show Steps p.tables e below (T151.setTop (mkF m 81 #[.val (.int P0), .val (.int P1), .val (.int P2), .val (.int P3), .val (.int P4), .val (.int ((((P0 &&& (1 : Int32)) + ((P0 >>> ((1 : Int32) &&& 31)) &&& (1 : Int32))) + ((P0 >>> ((2 : Int32) &&& 31)) &&& (1 : Int32))) + ((P0 >>> ((3 : Int32) &&& 31)) &&& (1 : Int32)))), .val (.ref b145), .val (.int (((0 : Int32) + (1 : Int32)) + (1 : Int32)))] [(.int (P0 &&& (8 : Int32)))])) _
        refine XS.ifYes X151.here hx rfl (pc0 := 81) (pc' := 94) rfl (hb hby d1_81) rfl ((if0 _ _).trans (teq (show (P0 &&& (8 : Int32)) = (0 : Int32) from (by first | decide | (rw [hk]; decide)))).1) (by decide) (by decide) ?_
        show Steps p.tables e below (T151.setTop (mkF m 94 #[.val (.int P0), .val (.int P1), .val (.int P2), .val (.int P3), .val (.int P4), .val (.int ((((P0 &&& (1 : Int32)) + ((P0 >>> ((1 : Int32) &&& 31)) &&& (1 : Int32))) + ((P0 >>> ((2 : Int32) &&& 31)) &&& (1 : Int32))) + ((P0 >>> ((3 : Int32) &&& 31)) &&& (1 : Int32)))), .val (.ref b145), .val (.int (((0 : Int32) + (1 : Int32)) + (1 : Int32)))] [])) _
        refine XS.aload X151.here hx rfl (hb hby d1_94) rfl rfl ?_
        exact kt)
    have hsel : (own_sel P0 P1 P2 P3 P4).map Value.int = [(.int P2), (.int P3)] := by rw [hk, own_sel6]; rfl
    have c154 : Exa Z h151 b145 "[I" := ((EX145.wr W148).wr W151)
    obtain ⟨fs, hr, hrun, hended, hW, hsame⟩ := X151.leave (v := some (.ref b145)) (fun h => by rw [Bd.returns] at h; cases h)
    refine ⟨_, _, pre153 _ ?_, hrun, hended, _, _, rfl, ?_, ⟨_, rfl⟩, hW, hsame.mono (by decide) (by decide)⟩
    · show Steps p.tables e below (T151.setTop (mkF m 96 #[.val (.int P0), .val (.int P1), .val (.int P2), .val (.int P3), .val (.int P4), .val (.int ((((P0 &&& (1 : Int32)) + ((P0 >>> ((1 : Int32) &&& 31)) &&& (1 : Int32))) + ((P0 >>> ((2 : Int32) &&& 31)) &&& (1 : Int32))) + ((P0 >>> ((3 : Int32) &&& 31)) &&& (1 : Int32)))), .val (.ref b145), .val (.int (((0 : Int32) + (1 : Int32)) + (1 : Int32)))] [(.ref b145)])) _
      exact retOut X151 hx Bd.returns rfl (Or.inr (Or.inr (Or.inr (Or.inr ⟨rfl, rfl, rfl⟩)))) (hb hby d1_96) hr
    · show Q1 Z P0 P1 P2 P3 P4 h0 n0 _ T151.heap _
      rw [e151]
      exact ⟨b145, k145, rfl, N151, K_152, sz_b145, c154, (by rw [hsel]; exact V151)⟩
  · obtain ⟨T155, h155, k155, X155, e155, E155, A155, EX155, st155⟩ := newPE X0 hx hZ (hw _ (List.mem_of_getElem? (i := 8) rfl)) e0 (g := (mkF m 25 #[.val (.int P0), .val (.int P1), .val (.int P2), .val (.int P3), .val (.int P4), .val (.int ((((P0 &&& (1 : Int32)) + ((P0 >>> ((1 : Int32) &&& 31)) &&& (1 : Int32))) + ((P0 >>> ((2 : Int32) &&& 31)) &&& (1 : Int32))) + ((P0 >>> ((3 : Int32) &&& 31)) &&& (1 : Int32)))), .unset, .unset] [(.int ((((P0 &&& (1 : Int32)) + ((P0 >>> ((1 : Int32) &&& 31)) &&& (1 : Int32))) + ((P0 >>> ((2 : Int32) &&& 31)) &&& (1 : Int32))) + ((P0 >>> ((3 : Int32) &&& 31)) &&& (1 : Int32))))])) rfl (hb hby d1_25) rfl (by first | decide | (rw [hk]; decide)) (cap := 4) (by first | decide | (rw [hk]; decide)) (by decide) (by decide) (by decide) (ad := "[I") (by decide)
    obtain ⟨b155, q155⟩ : ∃ z, z = h0.size := ⟨_, rfl⟩
    rw [← q155] at A155 EX155 st155
    have g_b155 : n0 ≤ b155 := Nat.le_trans Z0 (Nat.le_of_eq q155.symm)
    have sz_b155 : h0.size ≤ b155 := Nat.le_trans K_0.1 (Nat.le_of_eq q155.symm)
    have Z156 : n0 ≤ h155.size := Nat.le_trans Z0 E155.1
    have K_156 : Keep h0 h155 [] := K_0.ext E155
    have V155 : Arv Z h155 b155 k155 .int ((((P0 &&& (1 : Int32)) + ((P0 >>> ((1 : Int32) &&& 31)) &&& (1 : Int32))) + ((P0 >>> ((2 : Int32) &&& 31)) &&& (1 : Int32))) + ((P0 >>> ((3 : Int32) &&& 31)) &&& (1 : Int32))) [(.int (0 : Int32)), (.int (0 : Int32)), (.int (0 : Int32))] (.int (0 : Int32)) := (Arv.new A155 (by first | decide | (rw [hk]; decide))).pad (pad_rep [] (.int (0 : Int32)) 3)
    obtain ⟨cl157, Ar157, q157, S157, N_157, H157, G157⟩ := id V155
    have hin157 : ¬ ((0 : Int32) < 0 ∨ cl157.slots.size ≤ ((0 : Int32)).toNatClampNeg) := inb_of S157 ⟨by first | decide | (rw [hk]; decide), by first | decide | (rw [hk]; decide)⟩
    obtain ⟨T158, h158, X158, e158, W158, st158⟩ := stI X155 hx hZ e155 Ar157 (j := (0 : Int32)) hin157 (g := (mkF m 43 #[.val (.int P0), .val (.int P1), .val (.int P2), .val (.int P3), .val (.int P4), .val (.int ((((P0 &&& (1 : Int32)) + ((P0 >>> ((1 : Int32) &&& 31)) &&& (1 : Int32))) + ((P0 >>> ((2 : Int32) &&& 31)) &&& (1 : Int32))) + ((P0 >>> ((3 : Int32) &&& 31)) &&& (1 : Int32)))), .val (.ref b155), .val (.int (0 : Int32))] [(.int P1), (.int (0 : Int32)), (.ref b155)])) rfl rfl (hb hby d1_43)
    have Z159 : n0 ≤ h158.size := Nat.le_trans Z156 (Nat.le_of_eq W158.size.symm)
    have K_159 : Keep h0 h158 [] := K_156.wr W158 (Or.inr sz_b155)
    have V158 : Arv Z h158 b155 k155 .int ((((P0 &&& (1 : Int32)) + ((P0 >>> ((1 : Int32) &&& 31)) &&& (1 : Int32))) + ((P0 >>> ((2 : Int32) &&& 31)) &&& (1 : Int32))) + ((P0 >>> ((3 : Int32) &&& 31)) &&& (1 : Int32))) [(.int P1), (.int (0 : Int32)), (.int (0 : Int32))] (.int (0 : Int32)) := Arv.set Ar157 q157 S157 N_157 H157 G157 rfl W158 0 rfl (Nat.le_of_ble_eq_true rfl)
    have N158 := Fr.snoc X158 N0 g_b155
    obtain ⟨cl160, Ar160, q160, S160, N_160, H160, G160⟩ := id V158
    have hin160 : ¬ (((0 : Int32) + (1 : Int32)) < 0 ∨ cl160.slots.size ≤ (((0 : Int32) + (1 : Int32))).toNatClampNeg) := inb_of S160 ⟨by first | decide | (rw [hk]; decide), by first | decide | (rw [hk]; decide)⟩
    obtain ⟨T161, h161, X161, e161, W161, st161⟩ := stI X158 hx hZ e158 Ar160 (j := ((0 : Int32) + (1 : Int32))) hin160 (g := (mkF m 58 #[.val (.int P0), .val (.int P1), .val (.int P2), .val (.int P3), .val (.int P4), .val (.int ((((P0 &&& (1 : Int32)) + ((P0 >>> ((1 : Int32) &&& 31)) &&& (1 : Int32))) + ((P0 >>> ((2 : Int32) &&& 31)) &&& (1 : Int32))) + ((P0 >>> ((3 : Int32) &&& 31)) &&& (1 : Int32)))), .val (.ref b155), .val (.int ((0 : Int32) + (1 : Int32)))] [(.int P2), (.int ((0 : Int32) + (1 : Int32))), (.ref b155)])) rfl rfl (hb hby d1_58)
    have Z162 : n0 ≤ h161.size := Nat.le_trans Z159 (Nat.le_of_eq W161.size.symm)
    have K_162 : Keep h0 h161 [] := K_159.wr W161 (Or.inr sz_b155)
    have V161 : Arv Z h161 b155 k155 .int ((((P0 &&& (1 : Int32)) + ((P0 >>> ((1 : Int32) &&& 31)) &&& (1 : Int32))) + ((P0 >>> ((2 : Int32) &&& 31)) &&& (1 : Int32))) + ((P0 >>> ((3 : Int32) &&& 31)) &&& (1 : Int32))) [(.int P1), (.int P2), (.int (0 : Int32))] (.int (0 : Int32)) := Arv.set Ar160 q160 S160 N_160 H160 G160 rfl W161 1 (by decide) (Nat.le_of_ble_eq_true rfl)
    have N161 := Fr.snoc X161 N158 g_b155
    obtain ⟨cl163, Ar163, q163, S163, N_163, H163, G163⟩ := id V161
    have hin163 : ¬ ((((0 : Int32) + (1 : Int32)) + (1 : Int32)) < 0 ∨ cl163.slots.size ≤ ((((0 : Int32) + (1 : Int32)) + (1 : Int32))).toNatClampNeg) := inb_of S163 ⟨by first | decide | (rw [hk]; decide), by first | decide | (rw [hk]; decide)⟩
    obtain ⟨T164, h164, X164, e164, W164, st164⟩ := stI X161 hx hZ e161 Ar163 (j := (((0 : Int32) + (1 : Int32)) + (1 : Int32))) hin163 (g := (mkF m 73 #[.val (.int P0), .val (.int P1), .val (.int P2), .val (.int P3), .val (.int P4), .val (.int ((((P0 &&& (1 : Int32)) + ((P0 >>> ((1 : Int32) &&& 31)) &&& (1 : Int32))) + ((P0 >>> ((2 : Int32) &&& 31)) &&& (1 : Int32))) + ((P0 >>> ((3 : Int32) &&& 31)) &&& (1 : Int32)))), .val (.ref b155), .val (.int (((0 : Int32) + (1 : Int32)) + (1 : Int32)))] [(.int P3), (.int (((0 : Int32) + (1 : Int32)) + (1 : Int32))), (.ref b155)])) rfl rfl (hb hby d1_73)
    have Z165 : n0 ≤ h164.size := Nat.le_trans Z162 (Nat.le_of_eq W164.size.symm)
    have K_165 : Keep h0 h164 [] := K_162.wr W164 (Or.inr sz_b155)
    have V164 : Arv Z h164 b155 k155 .int ((((P0 &&& (1 : Int32)) + ((P0 >>> ((1 : Int32) &&& 31)) &&& (1 : Int32))) + ((P0 >>> ((2 : Int32) &&& 31)) &&& (1 : Int32))) + ((P0 >>> ((3 : Int32) &&& 31)) &&& (1 : Int32))) [(.int P1), (.int P2), (.int P3)] (.int (0 : Int32)) := Arv.set Ar163 q163 S163 N_163 H163 G163 rfl W164 2 (by decide) (Nat.le_of_ble_eq_true rfl)
    have N164 := Fr.snoc X164 N161 g_b155
    have pre166 : ∀ t, Steps p.tables e below (T164.setTop (mkF m 96 #[.val (.int P0), .val (.int P1), .val (.int P2), .val (.int P3), .val (.int P4), .val (.int ((((P0 &&& (1 : Int32)) + ((P0 >>> ((1 : Int32) &&& 31)) &&& (1 : Int32))) + ((P0 >>> ((2 : Int32) &&& 31)) &&& (1 : Int32))) + ((P0 >>> ((3 : Int32) &&& 31)) &&& (1 : Int32)))), .val (.ref b155), .val (.int ((((0 : Int32) + (1 : Int32)) + (1 : Int32)) + (1 : Int32)))] [(.ref b155)])) t → Steps p.tables e below (s₁.setTop (entryFrame m #[(.int P0), (.int P1), (.int P2), (.int P3), (.int P4)] 8)) t := fun t kt => pre0 t (by
        show Steps p.tables e below (s₁.setTop (mkF m 0 #[.val (.int P0), .val (.int P1), .val (.int P2), .val (.int P3), .val (.int P4), .unset, .unset, .unset] [])) _
        refine XS.iloadN X0.here hx rfl (hb hby d1_0) rfl ?_
        show Steps p.tables e below (s₁.setTop (mkF m 1 #[.val (.int P0), .val (.int P1), .val (.int P2), .val (.int P3), .val (.int P4), .unset, .unset, .unset] [(.int P0)])) _
        refine XS.iconst X0.here hx rfl (hb hby d1_1) ?_
        show Steps p.tables e below (s₁.setTop (mkF m 2 #[.val (.int P0), .val (.int P1), .val (.int P2), .val (.int P3), .val (.int P4), .unset, .unset, .unset] [(.int (1 : Int32)), (.int P0)])) _
        refine XS.iand X0.here hx rfl (hb hby d1_2) rfl ?_
        show Steps p.tables e below (s₁.setTop (mkF m 3 #[.val (.int P0), .val (.int P1), .val (.int P2), .val (.int P3), .val (.int P4), .unset, .unset, .unset] [(.int (P0 &&& (1 : Int32)))])) _
        refine XS.iloadN X0.here hx rfl (hb hby d1_3) rfl ?_
        show Steps p.tables e below (s₁.setTop (mkF m 4 #[.val (.int P0), .val (.int P1), .val (.int P2), .val (.int P3), .val (.int P4), .unset, .unset, .unset] [(.int P0), (.int (P0 &&& (1 : Int32)))])) _
        refine XS.iconst X0.here hx rfl (hb hby d1_4) ?_
        show Steps p.tables e below (s₁.setTop (mkF m 5 #[.val (.int P0), .val (.int P1), .val (.int P2), .val (.int P3), .val (.int P4), .unset, .unset, .unset] [(.int (1 : Int32)), (.int P0), (.int (P0 &&& (1 : Int32)))])) _
        refine XS.ishr X0.here hx rfl (hb hby d1_5) rfl ?_
        show Steps p.tables e below (s₁.setTop (mkF m 6 #[.val (.int P0), .val (.int P1), .val (.int P2), .val (.int P3), .val (.int P4), .unset, .unset, .unset] [(.int (P0 >>> ((1 : Int32) &&& 31))), (.int (P0 &&& (1 : Int32)))])) _
        refine XS.iconst X0.here hx rfl (hb hby d1_6) ?_
        show Steps p.tables e below (s₁.setTop (mkF m 7 #[.val (.int P0), .val (.int P1), .val (.int P2), .val (.int P3), .val (.int P4), .unset, .unset, .unset] [(.int (1 : Int32)), (.int (P0 >>> ((1 : Int32) &&& 31))), (.int (P0 &&& (1 : Int32)))])) _
        refine XS.iand X0.here hx rfl (hb hby d1_7) rfl ?_
        show Steps p.tables e below (s₁.setTop (mkF m 8 #[.val (.int P0), .val (.int P1), .val (.int P2), .val (.int P3), .val (.int P4), .unset, .unset, .unset] [(.int ((P0 >>> ((1 : Int32) &&& 31)) &&& (1 : Int32))), (.int (P0 &&& (1 : Int32)))])) _
        refine XS.iadd X0.here hx rfl (hb hby d1_8) rfl ?_
        show Steps p.tables e below (s₁.setTop (mkF m 9 #[.val (.int P0), .val (.int P1), .val (.int P2), .val (.int P3), .val (.int P4), .unset, .unset, .unset] [(.int ((P0 &&& (1 : Int32)) + ((P0 >>> ((1 : Int32) &&& 31)) &&& (1 : Int32))))])) _
        refine XS.iloadN X0.here hx rfl (hb hby d1_9) rfl ?_
        show Steps p.tables e below (s₁.setTop (mkF m 10 #[.val (.int P0), .val (.int P1), .val (.int P2), .val (.int P3), .val (.int P4), .unset, .unset, .unset] [(.int P0), (.int ((P0 &&& (1 : Int32)) + ((P0 >>> ((1 : Int32) &&& 31)) &&& (1 : Int32))))])) _
        refine XS.iconst X0.here hx rfl (hb hby d1_10) ?_
        show Steps p.tables e below (s₁.setTop (mkF m 11 #[.val (.int P0), .val (.int P1), .val (.int P2), .val (.int P3), .val (.int P4), .unset, .unset, .unset] [(.int (2 : Int32)), (.int P0), (.int ((P0 &&& (1 : Int32)) + ((P0 >>> ((1 : Int32) &&& 31)) &&& (1 : Int32))))])) _
        refine XS.ishr X0.here hx rfl (hb hby d1_11) rfl ?_
        show Steps p.tables e below (s₁.setTop (mkF m 12 #[.val (.int P0), .val (.int P1), .val (.int P2), .val (.int P3), .val (.int P4), .unset, .unset, .unset] [(.int (P0 >>> ((2 : Int32) &&& 31))), (.int ((P0 &&& (1 : Int32)) + ((P0 >>> ((1 : Int32) &&& 31)) &&& (1 : Int32))))])) _
        refine XS.iconst X0.here hx rfl (hb hby d1_12) ?_
        show Steps p.tables e below (s₁.setTop (mkF m 13 #[.val (.int P0), .val (.int P1), .val (.int P2), .val (.int P3), .val (.int P4), .unset, .unset, .unset] [(.int (1 : Int32)), (.int (P0 >>> ((2 : Int32) &&& 31))), (.int ((P0 &&& (1 : Int32)) + ((P0 >>> ((1 : Int32) &&& 31)) &&& (1 : Int32))))])) _
        refine XS.iand X0.here hx rfl (hb hby d1_13) rfl ?_
        show Steps p.tables e below (s₁.setTop (mkF m 14 #[.val (.int P0), .val (.int P1), .val (.int P2), .val (.int P3), .val (.int P4), .unset, .unset, .unset] [(.int ((P0 >>> ((2 : Int32) &&& 31)) &&& (1 : Int32))), (.int ((P0 &&& (1 : Int32)) + ((P0 >>> ((1 : Int32) &&& 31)) &&& (1 : Int32))))])) _
        refine XS.iadd X0.here hx rfl (hb hby d1_14) rfl ?_
        show Steps p.tables e below (s₁.setTop (mkF m 15 #[.val (.int P0), .val (.int P1), .val (.int P2), .val (.int P3), .val (.int P4), .unset, .unset, .unset] [(.int (((P0 &&& (1 : Int32)) + ((P0 >>> ((1 : Int32) &&& 31)) &&& (1 : Int32))) + ((P0 >>> ((2 : Int32) &&& 31)) &&& (1 : Int32))))])) _
        refine XS.iloadN X0.here hx rfl (hb hby d1_15) rfl ?_
        show Steps p.tables e below (s₁.setTop (mkF m 16 #[.val (.int P0), .val (.int P1), .val (.int P2), .val (.int P3), .val (.int P4), .unset, .unset, .unset] [(.int P0), (.int (((P0 &&& (1 : Int32)) + ((P0 >>> ((1 : Int32) &&& 31)) &&& (1 : Int32))) + ((P0 >>> ((2 : Int32) &&& 31)) &&& (1 : Int32))))])) _
        refine XS.iconst X0.here hx rfl (hb hby d1_16) ?_
        show Steps p.tables e below (s₁.setTop (mkF m 17 #[.val (.int P0), .val (.int P1), .val (.int P2), .val (.int P3), .val (.int P4), .unset, .unset, .unset] [(.int (3 : Int32)), (.int P0), (.int (((P0 &&& (1 : Int32)) + ((P0 >>> ((1 : Int32) &&& 31)) &&& (1 : Int32))) + ((P0 >>> ((2 : Int32) &&& 31)) &&& (1 : Int32))))])) _
        refine XS.ishr X0.here hx rfl (hb hby d1_17) rfl ?_
        show Steps p.tables e below (s₁.setTop (mkF m 18 #[.val (.int P0), .val (.int P1), .val (.int P2), .val (.int P3), .val (.int P4), .unset, .unset, .unset] [(.int (P0 >>> ((3 : Int32) &&& 31))), (.int (((P0 &&& (1 : Int32)) + ((P0 >>> ((1 : Int32) &&& 31)) &&& (1 : Int32))) + ((P0 >>> ((2 : Int32) &&& 31)) &&& (1 : Int32))))])) _
        refine XS.iconst X0.here hx rfl (hb hby d1_18) ?_
        show Steps p.tables e below (s₁.setTop (mkF m 19 #[.val (.int P0), .val (.int P1), .val (.int P2), .val (.int P3), .val (.int P4), .unset, .unset, .unset] [(.int (1 : Int32)), (.int (P0 >>> ((3 : Int32) &&& 31))), (.int (((P0 &&& (1 : Int32)) + ((P0 >>> ((1 : Int32) &&& 31)) &&& (1 : Int32))) + ((P0 >>> ((2 : Int32) &&& 31)) &&& (1 : Int32))))])) _
        refine XS.iand X0.here hx rfl (hb hby d1_19) rfl ?_
        show Steps p.tables e below (s₁.setTop (mkF m 20 #[.val (.int P0), .val (.int P1), .val (.int P2), .val (.int P3), .val (.int P4), .unset, .unset, .unset] [(.int ((P0 >>> ((3 : Int32) &&& 31)) &&& (1 : Int32))), (.int (((P0 &&& (1 : Int32)) + ((P0 >>> ((1 : Int32) &&& 31)) &&& (1 : Int32))) + ((P0 >>> ((2 : Int32) &&& 31)) &&& (1 : Int32))))])) _
        refine XS.iadd X0.here hx rfl (hb hby d1_20) rfl ?_
        show Steps p.tables e below (s₁.setTop (mkF m 21 #[.val (.int P0), .val (.int P1), .val (.int P2), .val (.int P3), .val (.int P4), .unset, .unset, .unset] [(.int ((((P0 &&& (1 : Int32)) + ((P0 >>> ((1 : Int32) &&& 31)) &&& (1 : Int32))) + ((P0 >>> ((2 : Int32) &&& 31)) &&& (1 : Int32))) + ((P0 >>> ((3 : Int32) &&& 31)) &&& (1 : Int32))))])) _
        refine XS.istore X0.here hx rfl (hb hby d1_21) rfl (l' := #[.val (.int P0), .val (.int P1), .val (.int P2), .val (.int P3), .val (.int P4), .val (.int ((((P0 &&& (1 : Int32)) + ((P0 >>> ((1 : Int32) &&& 31)) &&& (1 : Int32))) + ((P0 >>> ((2 : Int32) &&& 31)) &&& (1 : Int32))) + ((P0 >>> ((3 : Int32) &&& 31)) &&& (1 : Int32)))), .unset, .unset]) rfl ?_
        show Steps p.tables e below (s₁.setTop (mkF m 23 #[.val (.int P0), .val (.int P1), .val (.int P2), .val (.int P3), .val (.int P4), .val (.int ((((P0 &&& (1 : Int32)) + ((P0 >>> ((1 : Int32) &&& 31)) &&& (1 : Int32))) + ((P0 >>> ((2 : Int32) &&& 31)) &&& (1 : Int32))) + ((P0 >>> ((3 : Int32) &&& 31)) &&& (1 : Int32)))), .unset, .unset] [])) _
        refine XS.iload X0.here hx rfl (hb hby d1_23) rfl ?_
        show Steps p.tables e below (s₁.setTop (mkF m 25 #[.val (.int P0), .val (.int P1), .val (.int P2), .val (.int P3), .val (.int P4), .val (.int ((((P0 &&& (1 : Int32)) + ((P0 >>> ((1 : Int32) &&& 31)) &&& (1 : Int32))) + ((P0 >>> ((2 : Int32) &&& 31)) &&& (1 : Int32))) + ((P0 >>> ((3 : Int32) &&& 31)) &&& (1 : Int32)))), .unset, .unset] [(.int ((((P0 &&& (1 : Int32)) + ((P0 >>> ((1 : Int32) &&& 31)) &&& (1 : Int32))) + ((P0 >>> ((2 : Int32) &&& 31)) &&& (1 : Int32))) + ((P0 >>> ((3 : Int32) &&& 31)) &&& (1 : Int32))))])) _
        refine st155 _ ?_
        show Steps p.tables e below (T155.setTop (mkF m 27 #[.val (.int P0), .val (.int P1), .val (.int P2), .val (.int P3), .val (.int P4), .val (.int ((((P0 &&& (1 : Int32)) + ((P0 >>> ((1 : Int32) &&& 31)) &&& (1 : Int32))) + ((P0 >>> ((2 : Int32) &&& 31)) &&& (1 : Int32))) + ((P0 >>> ((3 : Int32) &&& 31)) &&& (1 : Int32)))), .unset, .unset] [(.ref b155)])) _
        refine XS.astore X155.here hx rfl (hb hby d1_27) rfl rfl (l' := #[.val (.int P0), .val (.int P1), .val (.int P2), .val (.int P3), .val (.int P4), .val (.int ((((P0 &&& (1 : Int32)) + ((P0 >>> ((1 : Int32) &&& 31)) &&& (1 : Int32))) + ((P0 >>> ((2 : Int32) &&& 31)) &&& (1 : Int32))) + ((P0 >>> ((3 : Int32) &&& 31)) &&& (1 : Int32)))), .val (.ref b155), .unset]) rfl ?_
        show Steps p.tables e below (T155.setTop (mkF m 29 #[.val (.int P0), .val (.int P1), .val (.int P2), .val (.int P3), .val (.int P4), .val (.int ((((P0 &&& (1 : Int32)) + ((P0 >>> ((1 : Int32) &&& 31)) &&& (1 : Int32))) + ((P0 >>> ((2 : Int32) &&& 31)) &&& (1 : Int32))) + ((P0 >>> ((3 : Int32) &&& 31)) &&& (1 : Int32)))), .val (.ref b155), .unset] [])) _
        refine XS.iconst X155.here hx rfl (hb hby d1_29) ?_
        show Steps p.tables e below (T155.setTop (mkF m 30 #[.val (.int P0), .val (.int P1), .val (.int P2), .val (.int P3), .val (.int P4), .val (.int ((((P0 &&& (1 : Int32)) + ((P0 >>> ((1 : Int32) &&& 31)) &&& (1 : Int32))) + ((P0 >>> ((2 : Int32) &&& 31)) &&& (1 : Int32))) + ((P0 >>> ((3 : Int32) &&& 31)) &&& (1 : Int32)))), .val (.ref b155), .unset] [(.int (0 : Int32))])) _
        refine XS.istore X155.here hx rfl (hb hby d1_30) rfl (l' := #[.val (.int P0), .val (.int P1), .val (.int P2), .val (.int P3), .val (.int P4), .val (.int ((((P0 &&& (1 : Int32)) + ((P0 >>> ((1 : Int32) &&& 31)) &&& (1 : Int32))) + ((P0 >>> ((2 : Int32) &&& 31)) &&& (1 : Int32))) + ((P0 >>> ((3 : Int32) &&& 31)) &&& (1 : Int32)))), .val (.ref b155), .val (.int (0 : Int32))]) rfl ?_
        show Steps p.tables e below (T155.setTop (mkF m 32 #[.val (.int P0), .val (.int P1), .val (.int P2), .val (.int P3), .val (.int P4), .val (.int ((((P0 &&& (1 : Int32)) + ((P0 >>> ((1 : Int32) &&& 31)) &&& (1 : Int32))) + ((P0 >>> ((2 : Int32) &&& 31)) &&& (1 : Int32))) + ((P0 >>> ((3 : Int32) &&& 31)) &&& (1 : Int32)))), .val (.ref b155), .val (.int (0 : Int32))] [])) _
        refine XS.iloadN X155.here hx rfl (hb hby d1_32) rfl ?_
        show Steps p.tables e below (T155.setTop (mkF m 33 #[.val (.int P0), .val (.int P1), .val (.int P2), .val (.int P3), .val (.int P4), .val (.int ((((P0 &&& (1 : Int32)) + ((P0 >>> ((1 : Int32) &&& 31)) &&& (1 : Int32))) + ((P0 >>> ((2 : Int32) &&& 31)) &&& (1 : Int32))) + ((P0 >>> ((3 : Int32) &&& 31)) &&& (1 : Int32)))), .val (.ref b155), .val (.int (0 : Int32))] [(.int P0)])) _
        refine XS.iconst X155.here hx rfl (hb hby d1_33) ?_
        show Steps p.tables e below (T155.setTop (mkF m 34 #[.val (.int P0), .val (.int P1), .val (.int P2), .val (.int P3), .val (.int P4), .val (.int ((((P0 &&& (1 : Int32)) + ((P0 >>> ((1 : Int32) &&& 31)) &&& (1 : Int32))) + ((P0 >>> ((2 : Int32) &&& 31)) &&& (1 : Int32))) + ((P0 >>> ((3 : Int32) &&& 31)) &&& (1 : Int32)))), .val (.ref b155), .val (.int (0 : Int32))] [(.int (1 : Int32)), (.int P0)])) _
        refine XS.iand X155.here hx rfl (hb hby d1_34) rfl ?_
        show Steps p.tables e below (T155.setTop (mkF m 35 #[.val (.int P0), .val (.int P1), .val (.int P2), .val (.int P3), .val (.int P4), .val (.int ((((P0 &&& (1 : Int32)) + ((P0 >>> ((1 : Int32) &&& 31)) &&& (1 : Int32))) + ((P0 >>> ((2 : Int32) &&& 31)) &&& (1 : Int32))) + ((P0 >>> ((3 : Int32) &&& 31)) &&& (1 : Int32)))), .val (.ref b155), .val (.int (0 : Int32))] [(.int (P0 &&& (1 : Int32)))])) _
        refine XS.ifNo X155.here hx rfl (hb hby d1_35) rfl ((if0 _ _).trans (feq (show ¬ ((P0 &&& (1 : Int32)) = (0 : Int32)) from (by first | decide | (rw [hk]; decide)))).1) ?_
        show Steps p.tables e below (T155.setTop (mkF m 38 #[.val (.int P0), .val (.int P1), .val (.int P2), .val (.int P3), .val (.int P4), .val (.int ((((P0 &&& (1 : Int32)) + ((P0 >>> ((1 : Int32) &&& 31)) &&& (1 : Int32))) + ((P0 >>> ((2 : Int32) &&& 31)) &&& (1 : Int32))) + ((P0 >>> ((3 : Int32) &&& 31)) &&& (1 : Int32)))), .val (.ref b155), .val (.int (0 : Int32))] [])) _
        refine XS.aload X155.here hx rfl (hb hby d1_38) rfl rfl ?_
        show Steps p.tables e below (T155.setTop (mkF m 40 #[.val (.int P0), .val (.int P1), .val (.int P2), .val (.int P3), .val (.int P4), .val (.int ((((P0 &&& (1 : Int32)) + ((P0 >>> ((1 : Int32) &&& 31)) &&& (1 : Int32))) + ((P0 >>> ((2 : Int32) &&& 31)) &&& (1 : Int32))) + ((P0 >>> ((3 : Int32) &&& 31)) &&& (1 : Int32)))), .val (.ref b155), .val (.int (0 : Int32))] [(.ref b155)])) _
        refine XS.iload X155.here hx rfl (hb hby d1_40) rfl ?_
        show Steps p.tables e below (T155.setTop (mkF m 42 #[.val (.int P0), .val (.int P1), .val (.int P2), .val (.int P3), .val (.int P4), .val (.int ((((P0 &&& (1 : Int32)) + ((P0 >>> ((1 : Int32) &&& 31)) &&& (1 : Int32))) + ((P0 >>> ((2 : Int32) &&& 31)) &&& (1 : Int32))) + ((P0 >>> ((3 : Int32) &&& 31)) &&& (1 : Int32)))), .val (.ref b155), .val (.int (0 : Int32))] [(.int (0 : Int32)), (.ref b155)])) _
        refine XS.iloadN X155.here hx rfl (hb hby d1_42) rfl ?_
        show Steps p.tables e below (T155.setTop (mkF m 43 #[.val (.int P0), .val (.int P1), .val (.int P2), .val (.int P3), .val (.int P4), .val (.int ((((P0 &&& (1 : Int32)) + ((P0 >>> ((1 : Int32) &&& 31)) &&& (1 : Int32))) + ((P0 >>> ((2 : Int32) &&& 31)) &&& (1 : Int32))) + ((P0 >>> ((3 : Int32) &&& 31)) &&& (1 : Int32)))), .val (.ref b155), .val (.int (0 : Int32))] [(.int P1), (.int (0 : Int32)), (.ref b155)])) _
        refine st158 _ ?_
        show Steps p.tables e below (T158.setTop (mkF m 44 #[.val (.int P0), .val (.int P1), .val (.int P2), .val (.int P3), .val (.int P4), .val (.int ((((P0 &&& (1 : Int32)) + ((P0 >>> ((1 : Int32) &&& 31)) &&& (1 : Int32))) + ((P0 >>> ((2 : Int32) &&& 31)) &&& (1 : Int32))) + ((P0 >>> ((3 : Int32) &&& 31)) &&& (1 : Int32)))), .val (.ref b155), .val (.int (0 : Int32))] [])) _
        refine XS.iinc X158.here hx rfl (hb hby d1_44) rfl (l' := #[.val (.int P0), .val (.int P1), .val (.int P2), .val (.int P3), .val (.int P4), .val (.int ((((P0 &&& (1 : Int32)) + ((P0 >>> ((1 : Int32) &&& 31)) &&& (1 : Int32))) + ((P0 >>> ((2 : Int32) &&& 31)) &&& (1 : Int32))) + ((P0 >>> ((3 : Int32) &&& 31)) &&& (1 : Int32)))), .val (.ref b155), .val (.int ((0 : Int32) + (1 : Int32)))]) rfl ?_
        show Steps p.tables e below (T158.setTop (mkF m 47 #[.val (.int P0), .val (.int P1), .val (.int P2), .val (.int P3), .val (.int P4), .val (.int ((((P0 &&& (1 : Int32)) + ((P0 >>> ((1 : Int32) &&& 31)) &&& (1 : Int32))) + ((P0 >>> ((2 : Int32) &&& 31)) &&& (1 : Int32))) + ((P0 >>> ((3 : Int32) &&& 31)) &&& (1 : Int32)))), .val (.ref b155), .val (.int ((0 : Int32) + (1 : Int32)))] [])) _
        refine XS.iloadN X158.here hx rfl (hb hby d1_47) rfl ?_
        show Steps p.tables e below (T158.setTop (mkF m 48 #[.val (.int P0), .val (.int P1), .val (.int P2), .val (.int P3), .val (.int P4), .val (.int ((((P0 &&& (1 : Int32)) + ((P0 >>> ((1 : Int32) &&& 31)) &&& (1 : Int32))) + ((P0 >>> ((2 : Int32) &&& 31)) &&& (1 : Int32))) + ((P0 >>> ((3 : Int32) &&& 31)) &&& (1 : Int32)))), .val (.ref b155), .val (.int ((0 : Int32) + (1 : Int32)))] [(.int P0)])) _
        refine XS.iconst X158.here hx rfl (hb hby d1_48) ?_
        show Steps p.tables e below (T158.setTop (mkF m 49 #[.val (.int P0), .val (.int P1), .val (.int P2), .val (.int P3), .val (.int P4), .val (.int ((((P0 &&& (1 : Int32)) + ((P0 >>> ((1 : Int32) &&& 31)) &&& (1 : Int32))) + ((P0 >>> ((2 : Int32) &&& 31)) &&& (1 : Int32))) + ((P0 >>> ((3 : Int32) &&& 31)) &&& (1 : Int32)))), .val (.ref b155), .val (.int ((0 : Int32) + (1 : Int32)))] [(.int (2 : Int32)), (.int P0)])) _
        refine XS.iand X158.here hx rfl (hb hby d1_49) rfl ?_
        show Steps p.tables e below (T158.setTop (mkF m 50 #[.val (.int P0), .val (.int P1), .val (.int P2), .val (.int P3), .val (.int P4), .val (.int ((((P0 &&& (1 : Int32)) + ((P0 >>> ((1 : Int32) &&& 31)) &&& (1 : Int32))) + ((P0 >>> ((2 : Int32) &&& 31)) &&& (1 : Int32))) + ((P0 >>> ((3 : Int32) &&& 31)) &&& (1 : Int32)))), .val (.ref b155), .val (.int ((0 : Int32) + (1 : Int32)))] [(.int (P0 &&& (2 : Int32)))])) _
        refine XS.ifNo X158.here hx rfl (hb hby d1_50) rfl ((if0 _ _).trans (feq (show ¬ ((P0 &&& (2 : Int32)) = (0 : Int32)) from (by first | decide | (rw [hk]; decide)))).1) ?_
        show Steps p.tables e below (T158.setTop (mkF m 53 #[.val (.int P0), .val (.int P1), .val (.int P2), .val (.int P3), .val (.int P4), .val (.int ((((P0 &&& (1 : Int32)) + ((P0 >>> ((1 : Int32) &&& 31)) &&& (1 : Int32))) + ((P0 >>> ((2 : Int32) &&& 31)) &&& (1 : Int32))) + ((P0 >>> ((3 : Int32) &&& 31)) &&& (1 : Int32)))), .val (.ref b155), .val (.int ((0 : Int32) + (1 : Int32)))] [])) _
        refine XS.aload X158.here hx rfl (hb hby d1_53) rfl rfl ?_
        show Steps p.tables e below (T158.setTop (mkF m 55 #[.val (.int P0), .val (.int P1), .val (.int P2), .val (.int P3), .val (.int P4), .val (.int ((((P0 &&& (1 : Int32)) + ((P0 >>> ((1 : Int32) &&& 31)) &&& (1 : Int32))) + ((P0 >>> ((2 : Int32) &&& 31)) &&& (1 : Int32))) + ((P0 >>> ((3 : Int32) &&& 31)) &&& (1 : Int32)))), .val (.ref b155), .val (.int ((0 : Int32) + (1 : Int32)))] [(.ref b155)])) _
        refine XS.iload X158.here hx rfl (hb hby d1_55) rfl ?_
        show Steps p.tables e below (T158.setTop (mkF m 57 #[.val (.int P0), .val (.int P1), .val (.int P2), .val (.int P3), .val (.int P4), .val (.int ((((P0 &&& (1 : Int32)) + ((P0 >>> ((1 : Int32) &&& 31)) &&& (1 : Int32))) + ((P0 >>> ((2 : Int32) &&& 31)) &&& (1 : Int32))) + ((P0 >>> ((3 : Int32) &&& 31)) &&& (1 : Int32)))), .val (.ref b155), .val (.int ((0 : Int32) + (1 : Int32)))] [(.int ((0 : Int32) + (1 : Int32))), (.ref b155)])) _
        refine XS.iloadN X158.here hx rfl (hb hby d1_57) rfl ?_
        show Steps p.tables e below (T158.setTop (mkF m 58 #[.val (.int P0), .val (.int P1), .val (.int P2), .val (.int P3), .val (.int P4), .val (.int ((((P0 &&& (1 : Int32)) + ((P0 >>> ((1 : Int32) &&& 31)) &&& (1 : Int32))) + ((P0 >>> ((2 : Int32) &&& 31)) &&& (1 : Int32))) + ((P0 >>> ((3 : Int32) &&& 31)) &&& (1 : Int32)))), .val (.ref b155), .val (.int ((0 : Int32) + (1 : Int32)))] [(.int P2), (.int ((0 : Int32) + (1 : Int32))), (.ref b155)])) _
        refine st161 _ ?_
        show Steps p.tables e below (T161.setTop (mkF m 59 #[.val (.int P0), .val (.int P1), .val (.int P2), .val (.int P3), .val (.int P4), .val (.int ((((P0 &&& (1 : Int32)) + ((P0 >>> ((1 : Int32) &&& 31)) &&& (1 : Int32))) + ((P0 >>> ((2 : Int32) &&& 31)) &&& (1 : Int32))) + ((P0 >>> ((3 : Int32) &&& 31)) &&& (1 : Int32)))), .val (.ref b155), .val (.int ((0 : Int32) + (1 : Int32)))] [])) _
        refine XS.iinc X161.here hx rfl (hb hby d1_59) rfl (l' := #[.val (.int P0), .val (.int P1), .val (.int P2), .val (.int P3), .val (.int P4), .val (.int ((((P0 &&& (1 : Int32)) + ((P0 >>> ((1 : Int32) &&& 31)) &&& (1 : Int32))) + ((P0 >>> ((2 : Int32) &&& 31)) &&& (1 : Int32))) + ((P0 >>> ((3 : Int32) &&& 31)) &&& (1 : Int32)))), .val (.ref b155), .val (.int (((0 : Int32) + (1 : Int32)) + (1 : Int32)))]) rfl ?_
        show Steps p.tables e below (T161.setTop (mkF m 62 #[.val (.int P0), .val (.int P1), .val (.int P2), .val (.int P3), .val (.int P4), .val (.int ((((P0 &&& (1 : Int32)) + ((P0 >>> ((1 : Int32) &&& 31)) &&& (1 : Int32))) + ((P0 >>> ((2 : Int32) &&& 31)) &&& (1 : Int32))) + ((P0 >>> ((3 : Int32) &&& 31)) &&& (1 : Int32)))), .val (.ref b155), .val (.int (((0 : Int32) + (1 : Int32)) + (1 : Int32)))] [])) _
        refine XS.iloadN X161.here hx rfl (hb hby d1_62) rfl ?_
        show Steps p.tables e below (T161.setTop (mkF m 63 #[.val (.int P0), .val (.int P1), .val (.int P2), .val (.int P3), .val (.int P4), .val (.int ((((P0 &&& (1 : Int32)) + ((P0 >>> ((1 : Int32) &&& 31)) &&& (1 : Int32))) + ((P0 >>> ((2 : Int32) &&& 31)) &&& (1 : Int32))) + ((P0 >>> ((3 : Int32) &&& 31)) &&& (1 : Int32)))), .val (.ref b155), .val (.int (((0 : Int32) + (1 : Int32)) + (1 : Int32)))] [(.int P0)])) _
        refine XS.iconst X161.here hx rfl (hb hby d1_63) ?_
        show Steps p.tables e below (T161.setTop (mkF m 64 #[.val (.int P0), .val (.int P1), .val (.int P2), .val (.int P3), .val (.int P4), .val (.int ((((P0 &&& (1 : Int32)) + ((P0 >>> ((1 : Int32) &&& 31)) &&& (1 : Int32))) + ((P0 >>> ((2 : Int32) &&& 31)) &&& (1 : Int32))) + ((P0 >>> ((3 : Int32) &&& 31)) &&& (1 : Int32)))), .val (.ref b155), .val (.int (((0 : Int32) + (1 : Int32)) + (1 : Int32)))] [(.int (4 : Int32)), (.int P0)])) _
        refine XS.iand X161.here hx rfl (hb hby d1_64) rfl ?_
        show Steps p.tables e below (T161.setTop (mkF m 65 #[.val (.int P0), .val (.int P1), .val (.int P2), .val (.int P3), .val (.int P4), .val (.int ((((P0 &&& (1 : Int32)) + ((P0 >>> ((1 : Int32) &&& 31)) &&& (1 : Int32))) + ((P0 >>> ((2 : Int32) &&& 31)) &&& (1 : Int32))) + ((P0 >>> ((3 : Int32) &&& 31)) &&& (1 : Int32)))), .val (.ref b155), .val (.int (((0 : Int32) + (1 : Int32)) + (1 : Int32)))] [(.int (P0 &&& (4 : Int32)))])) _
        refine XS.ifNo X161.here hx rfl (hb hby d1_65) rfl ((if0 _ _).trans (feq (show ¬ ((P0 &&& (4 : Int32)) = (0 : Int32)) from (by first | decide | (rw [hk]; decide)))).1) ?_
        show Steps p.tables e below (T161.setTop (mkF m 68 #[.val (.int P0), .val (.int P1), .val (.int P2), .val (.int P3), .val (.int P4), .val (.int ((((P0 &&& (1 : Int32)) + ((P0 >>> ((1 : Int32) &&& 31)) &&& (1 : Int32))) + ((P0 >>> ((2 : Int32) &&& 31)) &&& (1 : Int32))) + ((P0 >>> ((3 : Int32) &&& 31)) &&& (1 : Int32)))), .val (.ref b155), .val (.int (((0 : Int32) + (1 : Int32)) + (1 : Int32)))] [])) _
        refine XS.aload X161.here hx rfl (hb hby d1_68) rfl rfl ?_
        show Steps p.tables e below (T161.setTop (mkF m 70 #[.val (.int P0), .val (.int P1), .val (.int P2), .val (.int P3), .val (.int P4), .val (.int ((((P0 &&& (1 : Int32)) + ((P0 >>> ((1 : Int32) &&& 31)) &&& (1 : Int32))) + ((P0 >>> ((2 : Int32) &&& 31)) &&& (1 : Int32))) + ((P0 >>> ((3 : Int32) &&& 31)) &&& (1 : Int32)))), .val (.ref b155), .val (.int (((0 : Int32) + (1 : Int32)) + (1 : Int32)))] [(.ref b155)])) _
        refine XS.iload X161.here hx rfl (hb hby d1_70) rfl ?_
        show Steps p.tables e below (T161.setTop (mkF m 72 #[.val (.int P0), .val (.int P1), .val (.int P2), .val (.int P3), .val (.int P4), .val (.int ((((P0 &&& (1 : Int32)) + ((P0 >>> ((1 : Int32) &&& 31)) &&& (1 : Int32))) + ((P0 >>> ((2 : Int32) &&& 31)) &&& (1 : Int32))) + ((P0 >>> ((3 : Int32) &&& 31)) &&& (1 : Int32)))), .val (.ref b155), .val (.int (((0 : Int32) + (1 : Int32)) + (1 : Int32)))] [(.int (((0 : Int32) + (1 : Int32)) + (1 : Int32))), (.ref b155)])) _
        refine XS.iloadN X161.here hx rfl (hb hby d1_72) rfl ?_
        show Steps p.tables e below (T161.setTop (mkF m 73 #[.val (.int P0), .val (.int P1), .val (.int P2), .val (.int P3), .val (.int P4), .val (.int ((((P0 &&& (1 : Int32)) + ((P0 >>> ((1 : Int32) &&& 31)) &&& (1 : Int32))) + ((P0 >>> ((2 : Int32) &&& 31)) &&& (1 : Int32))) + ((P0 >>> ((3 : Int32) &&& 31)) &&& (1 : Int32)))), .val (.ref b155), .val (.int (((0 : Int32) + (1 : Int32)) + (1 : Int32)))] [(.int P3), (.int (((0 : Int32) + (1 : Int32)) + (1 : Int32))), (.ref b155)])) _
        refine st164 _ ?_
        show Steps p.tables e below (T164.setTop (mkF m 74 #[.val (.int P0), .val (.int P1), .val (.int P2), .val (.int P3), .val (.int P4), .val (.int ((((P0 &&& (1 : Int32)) + ((P0 >>> ((1 : Int32) &&& 31)) &&& (1 : Int32))) + ((P0 >>> ((2 : Int32) &&& 31)) &&& (1 : Int32))) + ((P0 >>> ((3 : Int32) &&& 31)) &&& (1 : Int32)))), .val (.ref b155), .val (.int (((0 : Int32) + (1 : Int32)) + (1 : Int32)))] [])) _
        refine XS.iinc X164.here hx rfl (hb hby d1_74) rfl (l' := #[.val (.int P0), .val (.int P1), .val (.int P2), .val (.int P3), .val (.int P4), .val (.int ((((P0 &&& (1 : Int32)) + ((P0 >>> ((1 : Int32) &&& 31)) &&& (1 : Int32))) + ((P0 >>> ((2 : Int32) &&& 31)) &&& (1 : Int32))) + ((P0 >>> ((3 : Int32) &&& 31)) &&& (1 : Int32)))), .val (.ref b155), .val (.int ((((0 : Int32) + (1 : Int32)) + (1 : Int32)) + (1 : Int32)))]) rfl ?_
        show Steps p.tables e below (T164.setTop (mkF m 77 #[.val (.int P0), .val (.int P1), .val (.int P2), .val (.int P3), .val (.int P4), .val (.int ((((P0 &&& (1 : Int32)) + ((P0 >>> ((1 : Int32) &&& 31)) &&& (1 : Int32))) + ((P0 >>> ((2 : Int32) &&& 31)) &&& (1 : Int32))) + ((P0 >>> ((3 : Int32) &&& 31)) &&& (1 : Int32)))), .val (.ref b155), .val (.int ((((0 : Int32) + (1 : Int32)) + (1 : Int32)) + (1 : Int32)))] [])) _
        refine XS.iloadN X164.here hx rfl (hb hby d1_77) rfl ?_
        show Steps p.tables e below (T164.setTop (mkF m 78 #[.val (.int P0), .val (.int P1), .val (.int P2), .val (.int P3), .val (.int P4), .val (.int ((((P0 &&& (1 : Int32)) + ((P0 >>> ((1 : Int32) &&& 31)) &&& (1 : Int32))) + ((P0 >>> ((2 : Int32) &&& 31)) &&& (1 : Int32))) + ((P0 >>> ((3 : Int32) &&& 31)) &&& (1 : Int32)))), .val (.ref b155), .val (.int ((((0 : Int32) + (1 : Int32)) + (1 : Int32)) + (1 : Int32)))] [(.int P0)])) _
        refine XS.bipush X164.here hx rfl (hb hby d1_78) ?_
        show Steps p.tables e below (T164.setTop (mkF m 80 #[.val (.int P0), .val (.int P1), .val (.int P2), .val (.int P3), .val (.int P4), .val (.int ((((P0 &&& (1 : Int32)) + ((P0 >>> ((1 : Int32) &&& 31)) &&& (1 : Int32))) + ((P0 >>> ((2 : Int32) &&& 31)) &&& (1 : Int32))) + ((P0 >>> ((3 : Int32) &&& 31)) &&& (1 : Int32)))), .val (.ref b155), .val (.int ((((0 : Int32) + (1 : Int32)) + (1 : Int32)) + (1 : Int32)))] [(.int (8 : Int32)), (.int P0)])) _
        refine XS.iand X164.here hx rfl (hb hby d1_80) rfl ?_
        show Steps p.tables e below (T164.setTop (mkF m 81 #[.val (.int P0), .val (.int P1), .val (.int P2), .val (.int P3), .val (.int P4), .val (.int ((((P0 &&& (1 : Int32)) + ((P0 >>> ((1 : Int32) &&& 31)) &&& (1 : Int32))) + ((P0 >>> ((2 : Int32) &&& 31)) &&& (1 : Int32))) + ((P0 >>> ((3 : Int32) &&& 31)) &&& (1 : Int32)))), .val (.ref b155), .val (.int ((((0 : Int32) + (1 : Int32)) + (1 : Int32)) + (1 : Int32)))] [(.int (P0 &&& (8 : Int32)))])) _
        refine XS.ifYes X164.here hx rfl (pc0 := 81) (pc' := 94) rfl (hb hby d1_81) rfl ((if0 _ _).trans (teq (show (P0 &&& (8 : Int32)) = (0 : Int32) from (by first | decide | (rw [hk]; decide)))).1) (by decide) (by decide) ?_
        show Steps p.tables e below (T164.setTop (mkF m 94 #[.val (.int P0), .val (.int P1), .val (.int P2), .val (.int P3), .val (.int P4), .val (.int ((((P0 &&& (1 : Int32)) + ((P0 >>> ((1 : Int32) &&& 31)) &&& (1 : Int32))) + ((P0 >>> ((2 : Int32) &&& 31)) &&& (1 : Int32))) + ((P0 >>> ((3 : Int32) &&& 31)) &&& (1 : Int32)))), .val (.ref b155), .val (.int ((((0 : Int32) + (1 : Int32)) + (1 : Int32)) + (1 : Int32)))] [])) _
        refine XS.aload X164.here hx rfl (hb hby d1_94) rfl rfl ?_
        exact kt)
    have hsel : (own_sel P0 P1 P2 P3 P4).map Value.int = [(.int P1), (.int P2), (.int P3)] := by rw [hk, own_sel7]; rfl
    have c167 : Exa Z h164 b155 "[I" := (((EX155.wr W158).wr W161).wr W164)
    obtain ⟨fs, hr, hrun, hended, hW, hsame⟩ := X164.leave (v := some (.ref b155)) (fun h => by rw [Bd.returns] at h; cases h)
    refine ⟨_, _, pre166 _ ?_, hrun, hended, _, _, rfl, ?_, ⟨_, rfl⟩, hW, hsame.mono (by decide) (by decide)⟩
    · show Steps p.tables e below (T164.setTop (mkF m 96 #[.val (.int P0), .val (.int P1), .val (.int P2), .val (.int P3), .val (.int P4), .val (.int ((((P0 &&& (1 : Int32)) + ((P0 >>> ((1 : Int32) &&& 31)) &&& (1 : Int32))) + ((P0 >>> ((2 : Int32) &&& 31)) &&& (1 : Int32))) + ((P0 >>> ((3 : Int32) &&& 31)) &&& (1 : Int32)))), .val (.ref b155), .val (.int ((((0 : Int32) + (1 : Int32)) + (1 : Int32)) + (1 : Int32)))] [(.ref b155)])) _
      exact retOut X164 hx Bd.returns rfl (Or.inr (Or.inr (Or.inr (Or.inr ⟨rfl, rfl, rfl⟩)))) (hb hby d1_96) hr
    · show Q1 Z P0 P1 P2 P3 P4 h0 n0 _ T164.heap _
      rw [e164]
      exact ⟨b155, k155, rfl, N164, K_165, sz_b155, c167, (by rw [hsel]; exact V164)⟩
  · obtain ⟨T168, h168, k168, X168, e168, E168, A168, EX168, st168⟩ := newPE X0 hx hZ (hw _ (List.mem_of_getElem? (i := 8) rfl)) e0 (g := (mkF m 25 #[.val (.int P0), .val (.int P1), .val (.int P2), .val (.int P3), .val (.int P4), .val (.int ((((P0 &&& (1 : Int32)) + ((P0 >>> ((1 : Int32) &&& 31)) &&& (1 : Int32))) + ((P0 >>> ((2 : Int32) &&& 31)) &&& (1 : Int32))) + ((P0 >>> ((3 : Int32) &&& 31)) &&& (1 : Int32)))), .unset, .unset] [(.int ((((P0 &&& (1 : Int32)) + ((P0 >>> ((1 : Int32) &&& 31)) &&& (1 : Int32))) + ((P0 >>> ((2 : Int32) &&& 31)) &&& (1 : Int32))) + ((P0 >>> ((3 : Int32) &&& 31)) &&& (1 : Int32))))])) rfl (hb hby d1_25) rfl (by first | decide | (rw [hk]; decide)) (cap := 4) (by first | decide | (rw [hk]; decide)) (by decide) (by decide) (by decide) (ad := "[I") (by decide)
    obtain ⟨b168, q168⟩ : ∃ z, z = h0.size := ⟨_, rfl⟩
    rw [← q168] at A168 EX168 st168
    have g_b168 : n0 ≤ b168 := Nat.le_trans Z0 (Nat.le_of_eq q168.symm)
    have sz_b168 : h0.size ≤ b168 := Nat.le_trans K_0.1 (Nat.le_of_eq q168.symm)
    have Z169 : n0 ≤ h168.size := Nat.le_trans Z0 E168.1
    have K_169 : Keep h0 h168 [] := K_0.ext E168
    have V168 : Arv Z h168 b168 k168 .int ((((P0 &&& (1 : Int32)) + ((P0 >>> ((1 : Int32) &&& 31)) &&& (1 : Int32))) + ((P0 >>> ((2 : Int32) &&& 31)) &&& (1 : Int32))) + ((P0 >>> ((3 : Int32) &&& 31)) &&& (1 : Int32))) [(.int (0 : Int32))] (.int (0 : Int32)) := (Arv.new A168 (by first | decide | (rw [hk]; decide))).pad (pad_rep [] (.int (0 : Int32)) 1)
    obtain ⟨cl170, Ar170, q170, S170, N_170, H170, G170⟩ := id V168
    have hin170 : ¬ ((0 : Int32) < 0 ∨ cl170.slots.size ≤ ((0 : Int32)).toNatClampNeg) := inb_of S170 ⟨by first | decide | (rw [hk]; decide), by first | decide | (rw [hk]; decide)⟩
    obtain ⟨T171, h171, X171, e171, W171, st171⟩ := stI X168 hx hZ e168 Ar170 (j := (0 : Int32)) hin170 (g := (mkF m 90 #[.val (.int P0), .val (.int P1), .val (.int P2), .val (.int P3), .val (.int P4), .val (.int ((((P0 &&& (1 : Int32)) + ((P0 >>> ((1 : Int32) &&& 31)) &&& (1 : Int32))) + ((P0 >>> ((2 : Int32) &&& 31)) &&& (1 : Int32))) + ((P0 >>> ((3 : Int32) &&& 31)) &&& (1 : Int32)))), .val (.ref b168), .val (.int (0 : Int32))] [(.int P4), (.int (0 : Int32)), (.ref b168)])) rfl rfl (hb hby d1_90)
    have Z172 : n0 ≤ h171.size := Nat.le_trans Z169 (Nat.le_of_eq W171.size.symm)
    have K_172 : Keep h0 h171 [] := K_169.wr W171 (Or.inr sz_b168)
    have V171 : Arv Z h171 b168 k168 .int ((((P0 &&& (1 : Int32)) + ((P0 >>> ((1 : Int32) &&& 31)) &&& (1 : Int32))) + ((P0 >>> ((2 : Int32) &&& 31)) &&& (1 : Int32))) + ((P0 >>> ((3 : Int32) &&& 31)) &&& (1 : Int32))) [(.int P4)] (.int (0 : Int32)) := Arv.set Ar170 q170 S170 N_170 H170 G170 rfl W171 0 rfl (Nat.le_of_ble_eq_true rfl)
    have N171 := Fr.snoc X171 N0 g_b168
    have pre173 : ∀ t, Steps p.tables e below (T171.setTop (mkF m 96 #[.val (.int P0), .val (.int P1), .val (.int P2), .val (.int P3), .val (.int P4), .val (.int ((((P0 &&& (1 : Int32)) + ((P0 >>> ((1 : Int32) &&& 31)) &&& (1 : Int32))) + ((P0 >>> ((2 : Int32) &&& 31)) &&& (1 : Int32))) + ((P0 >>> ((3 : Int32) &&& 31)) &&& (1 : Int32)))), .val (.ref b168), .val (.int ((0 : Int32) + (1 : Int32)))] [(.ref b168)])) t → Steps p.tables e below (s₁.setTop (entryFrame m #[(.int P0), (.int P1), (.int P2), (.int P3), (.int P4)] 8)) t := fun t kt => pre0 t (by
        show Steps p.tables e below (s₁.setTop (mkF m 0 #[.val (.int P0), .val (.int P1), .val (.int P2), .val (.int P3), .val (.int P4), .unset, .unset, .unset] [])) _
        refine XS.iloadN X0.here hx rfl (hb hby d1_0) rfl ?_
        show Steps p.tables e below (s₁.setTop (mkF m 1 #[.val (.int P0), .val (.int P1), .val (.int P2), .val (.int P3), .val (.int P4), .unset, .unset, .unset] [(.int P0)])) _
        refine XS.iconst X0.here hx rfl (hb hby d1_1) ?_
        show Steps p.tables e below (s₁.setTop (mkF m 2 #[.val (.int P0), .val (.int P1), .val (.int P2), .val (.int P3), .val (.int P4), .unset, .unset, .unset] [(.int (1 : Int32)), (.int P0)])) _
        refine XS.iand X0.here hx rfl (hb hby d1_2) rfl ?_
        show Steps p.tables e below (s₁.setTop (mkF m 3 #[.val (.int P0), .val (.int P1), .val (.int P2), .val (.int P3), .val (.int P4), .unset, .unset, .unset] [(.int (P0 &&& (1 : Int32)))])) _
        refine XS.iloadN X0.here hx rfl (hb hby d1_3) rfl ?_
        show Steps p.tables e below (s₁.setTop (mkF m 4 #[.val (.int P0), .val (.int P1), .val (.int P2), .val (.int P3), .val (.int P4), .unset, .unset, .unset] [(.int P0), (.int (P0 &&& (1 : Int32)))])) _
        refine XS.iconst X0.here hx rfl (hb hby d1_4) ?_
        show Steps p.tables e below (s₁.setTop (mkF m 5 #[.val (.int P0), .val (.int P1), .val (.int P2), .val (.int P3), .val (.int P4), .unset, .unset, .unset] [(.int (1 : Int32)), (.int P0), (.int (P0 &&& (1 : Int32)))])) _
        refine XS.ishr X0.here hx rfl (hb hby d1_5) rfl ?_
        show Steps p.tables e below (s₁.setTop (mkF m 6 #[.val (.int P0), .val (.int P1), .val (.int P2), .val (.int P3), .val (.int P4), .unset, .unset, .unset] [(.int (P0 >>> ((1 : Int32) &&& 31))), (.int (P0 &&& (1 : Int32)))])) _
        refine XS.iconst X0.here hx rfl (hb hby d1_6) ?_
        show Steps p.tables e below (s₁.setTop (mkF m 7 #[.val (.int P0), .val (.int P1), .val (.int P2), .val (.int P3), .val (.int P4), .unset, .unset, .unset] [(.int (1 : Int32)), (.int (P0 >>> ((1 : Int32) &&& 31))), (.int (P0 &&& (1 : Int32)))])) _
        refine XS.iand X0.here hx rfl (hb hby d1_7) rfl ?_
        show Steps p.tables e below (s₁.setTop (mkF m 8 #[.val (.int P0), .val (.int P1), .val (.int P2), .val (.int P3), .val (.int P4), .unset, .unset, .unset] [(.int ((P0 >>> ((1 : Int32) &&& 31)) &&& (1 : Int32))), (.int (P0 &&& (1 : Int32)))])) _
        refine XS.iadd X0.here hx rfl (hb hby d1_8) rfl ?_
        show Steps p.tables e below (s₁.setTop (mkF m 9 #[.val (.int P0), .val (.int P1), .val (.int P2), .val (.int P3), .val (.int P4), .unset, .unset, .unset] [(.int ((P0 &&& (1 : Int32)) + ((P0 >>> ((1 : Int32) &&& 31)) &&& (1 : Int32))))])) _
        refine XS.iloadN X0.here hx rfl (hb hby d1_9) rfl ?_
        show Steps p.tables e below (s₁.setTop (mkF m 10 #[.val (.int P0), .val (.int P1), .val (.int P2), .val (.int P3), .val (.int P4), .unset, .unset, .unset] [(.int P0), (.int ((P0 &&& (1 : Int32)) + ((P0 >>> ((1 : Int32) &&& 31)) &&& (1 : Int32))))])) _
        refine XS.iconst X0.here hx rfl (hb hby d1_10) ?_
        show Steps p.tables e below (s₁.setTop (mkF m 11 #[.val (.int P0), .val (.int P1), .val (.int P2), .val (.int P3), .val (.int P4), .unset, .unset, .unset] [(.int (2 : Int32)), (.int P0), (.int ((P0 &&& (1 : Int32)) + ((P0 >>> ((1 : Int32) &&& 31)) &&& (1 : Int32))))])) _
        refine XS.ishr X0.here hx rfl (hb hby d1_11) rfl ?_
        show Steps p.tables e below (s₁.setTop (mkF m 12 #[.val (.int P0), .val (.int P1), .val (.int P2), .val (.int P3), .val (.int P4), .unset, .unset, .unset] [(.int (P0 >>> ((2 : Int32) &&& 31))), (.int ((P0 &&& (1 : Int32)) + ((P0 >>> ((1 : Int32) &&& 31)) &&& (1 : Int32))))])) _
        refine XS.iconst X0.here hx rfl (hb hby d1_12) ?_
        show Steps p.tables e below (s₁.setTop (mkF m 13 #[.val (.int P0), .val (.int P1), .val (.int P2), .val (.int P3), .val (.int P4), .unset, .unset, .unset] [(.int (1 : Int32)), (.int (P0 >>> ((2 : Int32) &&& 31))), (.int ((P0 &&& (1 : Int32)) + ((P0 >>> ((1 : Int32) &&& 31)) &&& (1 : Int32))))])) _
        refine XS.iand X0.here hx rfl (hb hby d1_13) rfl ?_
        show Steps p.tables e below (s₁.setTop (mkF m 14 #[.val (.int P0), .val (.int P1), .val (.int P2), .val (.int P3), .val (.int P4), .unset, .unset, .unset] [(.int ((P0 >>> ((2 : Int32) &&& 31)) &&& (1 : Int32))), (.int ((P0 &&& (1 : Int32)) + ((P0 >>> ((1 : Int32) &&& 31)) &&& (1 : Int32))))])) _
        refine XS.iadd X0.here hx rfl (hb hby d1_14) rfl ?_
        show Steps p.tables e below (s₁.setTop (mkF m 15 #[.val (.int P0), .val (.int P1), .val (.int P2), .val (.int P3), .val (.int P4), .unset, .unset, .unset] [(.int (((P0 &&& (1 : Int32)) + ((P0 >>> ((1 : Int32) &&& 31)) &&& (1 : Int32))) + ((P0 >>> ((2 : Int32) &&& 31)) &&& (1 : Int32))))])) _
        refine XS.iloadN X0.here hx rfl (hb hby d1_15) rfl ?_
        show Steps p.tables e below (s₁.setTop (mkF m 16 #[.val (.int P0), .val (.int P1), .val (.int P2), .val (.int P3), .val (.int P4), .unset, .unset, .unset] [(.int P0), (.int (((P0 &&& (1 : Int32)) + ((P0 >>> ((1 : Int32) &&& 31)) &&& (1 : Int32))) + ((P0 >>> ((2 : Int32) &&& 31)) &&& (1 : Int32))))])) _
        refine XS.iconst X0.here hx rfl (hb hby d1_16) ?_
        show Steps p.tables e below (s₁.setTop (mkF m 17 #[.val (.int P0), .val (.int P1), .val (.int P2), .val (.int P3), .val (.int P4), .unset, .unset, .unset] [(.int (3 : Int32)), (.int P0), (.int (((P0 &&& (1 : Int32)) + ((P0 >>> ((1 : Int32) &&& 31)) &&& (1 : Int32))) + ((P0 >>> ((2 : Int32) &&& 31)) &&& (1 : Int32))))])) _
        refine XS.ishr X0.here hx rfl (hb hby d1_17) rfl ?_
        show Steps p.tables e below (s₁.setTop (mkF m 18 #[.val (.int P0), .val (.int P1), .val (.int P2), .val (.int P3), .val (.int P4), .unset, .unset, .unset] [(.int (P0 >>> ((3 : Int32) &&& 31))), (.int (((P0 &&& (1 : Int32)) + ((P0 >>> ((1 : Int32) &&& 31)) &&& (1 : Int32))) + ((P0 >>> ((2 : Int32) &&& 31)) &&& (1 : Int32))))])) _
        refine XS.iconst X0.here hx rfl (hb hby d1_18) ?_
        show Steps p.tables e below (s₁.setTop (mkF m 19 #[.val (.int P0), .val (.int P1), .val (.int P2), .val (.int P3), .val (.int P4), .unset, .unset, .unset] [(.int (1 : Int32)), (.int (P0 >>> ((3 : Int32) &&& 31))), (.int (((P0 &&& (1 : Int32)) + ((P0 >>> ((1 : Int32) &&& 31)) &&& (1 : Int32))) + ((P0 >>> ((2 : Int32) &&& 31)) &&& (1 : Int32))))])) _
        refine XS.iand X0.here hx rfl (hb hby d1_19) rfl ?_
        show Steps p.tables e below (s₁.setTop (mkF m 20 #[.val (.int P0), .val (.int P1), .val (.int P2), .val (.int P3), .val (.int P4), .unset, .unset, .unset] [(.int ((P0 >>> ((3 : Int32) &&& 31)) &&& (1 : Int32))), (.int (((P0 &&& (1 : Int32)) + ((P0 >>> ((1 : Int32) &&& 31)) &&& (1 : Int32))) + ((P0 >>> ((2 : Int32) &&& 31)) &&& (1 : Int32))))])) _
        refine XS.iadd X0.here hx rfl (hb hby d1_20) rfl ?_
        show Steps p.tables e below (s₁.setTop (mkF m 21 #[.val (.int P0), .val (.int P1), .val (.int P2), .val (.int P3), .val (.int P4), .unset, .unset, .unset] [(.int ((((P0 &&& (1 : Int32)) + ((P0 >>> ((1 : Int32) &&& 31)) &&& (1 : Int32))) + ((P0 >>> ((2 : Int32) &&& 31)) &&& (1 : Int32))) + ((P0 >>> ((3 : Int32) &&& 31)) &&& (1 : Int32))))])) _
        refine XS.istore X0.here hx rfl (hb hby d1_21) rfl (l' := #[.val (.int P0), .val (.int P1), .val (.int P2), .val (.int P3), .val (.int P4), .val (.int ((((P0 &&& (1 : Int32)) + ((P0 >>> ((1 : Int32) &&& 31)) &&& (1 : Int32))) + ((P0 >>> ((2 : Int32) &&& 31)) &&& (1 : Int32))) + ((P0 >>> ((3 : Int32) &&& 31)) &&& (1 : Int32)))), .unset, .unset]) rfl ?_
        show Steps p.tables e below (s₁.setTop (mkF m 23 #[.val (.int P0), .val (.int P1), .val (.int P2), .val (.int P3), .val (.int P4), .val (.int ((((P0 &&& (1 : Int32)) + ((P0 >>> ((1 : Int32) &&& 31)) &&& (1 : Int32))) + ((P0 >>> ((2 : Int32) &&& 31)) &&& (1 : Int32))) + ((P0 >>> ((3 : Int32) &&& 31)) &&& (1 : Int32)))), .unset, .unset] [])) _
        refine XS.iload X0.here hx rfl (hb hby d1_23) rfl ?_
        show Steps p.tables e below (s₁.setTop (mkF m 25 #[.val (.int P0), .val (.int P1), .val (.int P2), .val (.int P3), .val (.int P4), .val (.int ((((P0 &&& (1 : Int32)) + ((P0 >>> ((1 : Int32) &&& 31)) &&& (1 : Int32))) + ((P0 >>> ((2 : Int32) &&& 31)) &&& (1 : Int32))) + ((P0 >>> ((3 : Int32) &&& 31)) &&& (1 : Int32)))), .unset, .unset] [(.int ((((P0 &&& (1 : Int32)) + ((P0 >>> ((1 : Int32) &&& 31)) &&& (1 : Int32))) + ((P0 >>> ((2 : Int32) &&& 31)) &&& (1 : Int32))) + ((P0 >>> ((3 : Int32) &&& 31)) &&& (1 : Int32))))])) _
        refine st168 _ ?_
        show Steps p.tables e below (T168.setTop (mkF m 27 #[.val (.int P0), .val (.int P1), .val (.int P2), .val (.int P3), .val (.int P4), .val (.int ((((P0 &&& (1 : Int32)) + ((P0 >>> ((1 : Int32) &&& 31)) &&& (1 : Int32))) + ((P0 >>> ((2 : Int32) &&& 31)) &&& (1 : Int32))) + ((P0 >>> ((3 : Int32) &&& 31)) &&& (1 : Int32)))), .unset, .unset] [(.ref b168)])) _
        refine XS.astore X168.here hx rfl (hb hby d1_27) rfl rfl (l' := #[.val (.int P0), .val (.int P1), .val (.int P2), .val (.int P3), .val (.int P4), .val (.int ((((P0 &&& (1 : Int32)) + ((P0 >>> ((1 : Int32) &&& 31)) &&& (1 : Int32))) + ((P0 >>> ((2 : Int32) &&& 31)) &&& (1 : Int32))) + ((P0 >>> ((3 : Int32) &&& 31)) &&& (1 : Int32)))), .val (.ref b168), .unset]) rfl ?_
        show Steps p.tables e below (T168.setTop (mkF m 29 #[.val (.int P0), .val (.int P1), .val (.int P2), .val (.int P3), .val (.int P4), .val (.int ((((P0 &&& (1 : Int32)) + ((P0 >>> ((1 : Int32) &&& 31)) &&& (1 : Int32))) + ((P0 >>> ((2 : Int32) &&& 31)) &&& (1 : Int32))) + ((P0 >>> ((3 : Int32) &&& 31)) &&& (1 : Int32)))), .val (.ref b168), .unset] [])) _
        refine XS.iconst X168.here hx rfl (hb hby d1_29) ?_
        show Steps p.tables e below (T168.setTop (mkF m 30 #[.val (.int P0), .val (.int P1), .val (.int P2), .val (.int P3), .val (.int P4), .val (.int ((((P0 &&& (1 : Int32)) + ((P0 >>> ((1 : Int32) &&& 31)) &&& (1 : Int32))) + ((P0 >>> ((2 : Int32) &&& 31)) &&& (1 : Int32))) + ((P0 >>> ((3 : Int32) &&& 31)) &&& (1 : Int32)))), .val (.ref b168), .unset] [(.int (0 : Int32))])) _
        refine XS.istore X168.here hx rfl (hb hby d1_30) rfl (l' := #[.val (.int P0), .val (.int P1), .val (.int P2), .val (.int P3), .val (.int P4), .val (.int ((((P0 &&& (1 : Int32)) + ((P0 >>> ((1 : Int32) &&& 31)) &&& (1 : Int32))) + ((P0 >>> ((2 : Int32) &&& 31)) &&& (1 : Int32))) + ((P0 >>> ((3 : Int32) &&& 31)) &&& (1 : Int32)))), .val (.ref b168), .val (.int (0 : Int32))]) rfl ?_
        show Steps p.tables e below (T168.setTop (mkF m 32 #[.val (.int P0), .val (.int P1), .val (.int P2), .val (.int P3), .val (.int P4), .val (.int ((((P0 &&& (1 : Int32)) + ((P0 >>> ((1 : Int32) &&& 31)) &&& (1 : Int32))) + ((P0 >>> ((2 : Int32) &&& 31)) &&& (1 : Int32))) + ((P0 >>> ((3 : Int32) &&& 31)) &&& (1 : Int32)))), .val (.ref b168), .val (.int (0 : Int32))] [])) _
        refine XS.iloadN X168.here hx rfl (hb hby d1_32) rfl ?_
        show Steps p.tables e below (T168.setTop (mkF m 33 #[.val (.int P0), .val (.int P1), .val (.int P2), .val (.int P3), .val (.int P4), .val (.int ((((P0 &&& (1 : Int32)) + ((P0 >>> ((1 : Int32) &&& 31)) &&& (1 : Int32))) + ((P0 >>> ((2 : Int32) &&& 31)) &&& (1 : Int32))) + ((P0 >>> ((3 : Int32) &&& 31)) &&& (1 : Int32)))), .val (.ref b168), .val (.int (0 : Int32))] [(.int P0)])) _
        refine XS.iconst X168.here hx rfl (hb hby d1_33) ?_
        show Steps p.tables e below (T168.setTop (mkF m 34 #[.val (.int P0), .val (.int P1), .val (.int P2), .val (.int P3), .val (.int P4), .val (.int ((((P0 &&& (1 : Int32)) + ((P0 >>> ((1 : Int32) &&& 31)) &&& (1 : Int32))) + ((P0 >>> ((2 : Int32) &&& 31)) &&& (1 : Int32))) + ((P0 >>> ((3 : Int32) &&& 31)) &&& (1 : Int32)))), .val (.ref b168), .val (.int (0 : Int32))] [(.int (1 : Int32)), (.int P0)])) _
        refine XS.iand X168.here hx rfl (hb hby d1_34) rfl ?_
        show Steps p.tables e below (T168.setTop (mkF m 35 #[.val (.int P0), .val (.int P1), .val (.int P2), .val (.int P3), .val (.int P4), .val (.int ((((P0 &&& (1 : Int32)) + ((P0 >>> ((1 : Int32) &&& 31)) &&& (1 : Int32))) + ((P0 >>> ((2 : Int32) &&& 31)) &&& (1 : Int32))) + ((P0 >>> ((3 : Int32) &&& 31)) &&& (1 : Int32)))), .val (.ref b168), .val (.int (0 : Int32))] [(.int (P0 &&& (1 : Int32)))])) _
        refine XS.ifYes X168.here hx rfl (pc0 := 35) (pc' := 47) rfl (hb hby d1_35) rfl ((if0 _ _).trans (teq (show (P0 &&& (1 : Int32)) = (0 : Int32) from (by first | decide | (rw [hk]; decide)))).1) (by decide) (by decide) ?_
        show Steps p.tables e below (T168.setTop (mkF m 47 #[.val (.int P0), .val (.int P1), .val (.int P2), .val (.int P3), .val (.int P4), .val (.int ((((P0 &&& (1 : Int32)) + ((P0 >>> ((1 : Int32) &&& 31)) &&& (1 : Int32))) + ((P0 >>> ((2 : Int32) &&& 31)) &&& (1 : Int32))) + ((P0 >>> ((3 : Int32) &&& 31)) &&& (1 : Int32)))), .val (.ref b168), .val (.int (0 : Int32))] [])) _
        refine XS.iloadN X168.here hx rfl (hb hby d1_47) rfl ?_
        show Steps p.tables e below (T168.setTop (mkF m 48 #[.val (.int P0), .val (.int P1), .val (.int P2), .val (.int P3), .val (.int P4), .val (.int ((((P0 &&& (1 : Int32)) + ((P0 >>> ((1 : Int32) &&& 31)) &&& (1 : Int32))) + ((P0 >>> ((2 : Int32) &&& 31)) &&& (1 : Int32))) + ((P0 >>> ((3 : Int32) &&& 31)) &&& (1 : Int32)))), .val (.ref b168), .val (.int (0 : Int32))] [(.int P0)])) _
        refine XS.iconst X168.here hx rfl (hb hby d1_48) ?_
        show Steps p.tables e below (T168.setTop (mkF m 49 #[.val (.int P0), .val (.int P1), .val (.int P2), .val (.int P3), .val (.int P4), .val (.int ((((P0 &&& (1 : Int32)) + ((P0 >>> ((1 : Int32) &&& 31)) &&& (1 : Int32))) + ((P0 >>> ((2 : Int32) &&& 31)) &&& (1 : Int32))) + ((P0 >>> ((3 : Int32) &&& 31)) &&& (1 : Int32)))), .val (.ref b168), .val (.int (0 : Int32))] [(.int (2 : Int32)), (.int P0)])) _
        refine XS.iand X168.here hx rfl (hb hby d1_49) rfl ?_
        show Steps p.tables e below (T168.setTop (mkF m 50 #[.val (.int P0), .val (.int P1), .val (.int P2), .val (.int P3), .val (.int P4), .val (.int ((((P0 &&& (1 : Int32)) + ((P0 >>> ((1 : Int32) &&& 31)) &&& (1 : Int32))) + ((P0 >>> ((2 : Int32) &&& 31)) &&& (1 : Int32))) + ((P0 >>> ((3 : Int32) &&& 31)) &&& (1 : Int32)))), .val (.ref b168), .val (.int (0 : Int32))] [(.int (P0 &&& (2 : Int32)))])) _
        refine XS.ifYes X168.here hx rfl (pc0 := 50) (pc' := 62) rfl (hb hby d1_50) rfl ((if0 _ _).trans (teq (show (P0 &&& (2 : Int32)) = (0 : Int32) from (by first | decide | (rw [hk]; decide)))).1) (by decide) (by decide) ?_
        show Steps p.tables e below (T168.setTop (mkF m 62 #[.val (.int P0), .val (.int P1), .val (.int P2), .val (.int P3), .val (.int P4), .val (.int ((((P0 &&& (1 : Int32)) + ((P0 >>> ((1 : Int32) &&& 31)) &&& (1 : Int32))) + ((P0 >>> ((2 : Int32) &&& 31)) &&& (1 : Int32))) + ((P0 >>> ((3 : Int32) &&& 31)) &&& (1 : Int32)))), .val (.ref b168), .val (.int (0 : Int32))] [])) _
        refine XS.iloadN X168.here hx rfl (hb hby d1_62) rfl ?_
        show Steps p.tables e below (T168.setTop (mkF m 63 #[.val (.int P0), .val (.int P1), .val (.int P2), .val (.int P3), .val (.int P4), .val (.int ((((P0 &&& (1 : Int32)) + ((P0 >>> ((1 : Int32) &&& 31)) &&& (1 : Int32))) + ((P0 >>> ((2 : Int32) &&& 31)) &&& (1 : Int32))) + ((P0 >>> ((3 : Int32) &&& 31)) &&& (1 : Int32)))), .val (.ref b168), .val (.int (0 : Int32))] [(.int P0)])) _
        refine XS.iconst X168.here hx rfl (hb hby d1_63) ?_
        show Steps p.tables e below (T168.setTop (mkF m 64 #[.val (.int P0), .val (.int P1), .val (.int P2), .val (.int P3), .val (.int P4), .val (.int ((((P0 &&& (1 : Int32)) + ((P0 >>> ((1 : Int32) &&& 31)) &&& (1 : Int32))) + ((P0 >>> ((2 : Int32) &&& 31)) &&& (1 : Int32))) + ((P0 >>> ((3 : Int32) &&& 31)) &&& (1 : Int32)))), .val (.ref b168), .val (.int (0 : Int32))] [(.int (4 : Int32)), (.int P0)])) _
        refine XS.iand X168.here hx rfl (hb hby d1_64) rfl ?_
        show Steps p.tables e below (T168.setTop (mkF m 65 #[.val (.int P0), .val (.int P1), .val (.int P2), .val (.int P3), .val (.int P4), .val (.int ((((P0 &&& (1 : Int32)) + ((P0 >>> ((1 : Int32) &&& 31)) &&& (1 : Int32))) + ((P0 >>> ((2 : Int32) &&& 31)) &&& (1 : Int32))) + ((P0 >>> ((3 : Int32) &&& 31)) &&& (1 : Int32)))), .val (.ref b168), .val (.int (0 : Int32))] [(.int (P0 &&& (4 : Int32)))])) _
        refine XS.ifYes X168.here hx rfl (pc0 := 65) (pc' := 77) rfl (hb hby d1_65) rfl ((if0 _ _).trans (teq (show (P0 &&& (4 : Int32)) = (0 : Int32) from (by first | decide | (rw [hk]; decide)))).1) (by decide) (by decide) ?_
        show Steps p.tables e below (T168.setTop (mkF m 77 #[.val (.int P0), .val (.int P1), .val (.int P2), .val (.int P3), .val (.int P4), .val (.int ((((P0 &&& (1 : Int32)) + ((P0 >>> ((1 : Int32) &&& 31)) &&& (1 : Int32))) + ((P0 >>> ((2 : Int32) &&& 31)) &&& (1 : Int32))) + ((P0 >>> ((3 : Int32) &&& 31)) &&& (1 : Int32)))), .val (.ref b168), .val (.int (0 : Int32))] [])) _
        refine XS.iloadN X168.here hx rfl (hb hby d1_77) rfl ?_
        show Steps p.tables e below (T168.setTop (mkF m 78 #[.val (.int P0), .val (.int P1), .val (.int P2), .val (.int P3), .val (.int P4), .val (.int ((((P0 &&& (1 : Int32)) + ((P0 >>> ((1 : Int32) &&& 31)) &&& (1 : Int32))) + ((P0 >>> ((2 : Int32) &&& 31)) &&& (1 : Int32))) + ((P0 >>> ((3 : Int32) &&& 31)) &&& (1 : Int32)))), .val (.ref b168), .val (.int (0 : Int32))] [(.int P0)])) _
        refine XS.bipush X168.here hx rfl (hb hby d1_78) ?_
        show Steps p.tables e below (T168.setTop (mkF m 80 #[.val (.int P0), .val (.int P1), .val (.int P2), .val (.int P3), .val (.int P4), .val (.int ((((P0 &&& (1 : Int32)) + ((P0 >>> ((1 : Int32) &&& 31)) &&& (1 : Int32))) + ((P0 >>> ((2 : Int32) &&& 31)) &&& (1 : Int32))) + ((P0 >>> ((3 : Int32) &&& 31)) &&& (1 : Int32)))), .val (.ref b168), .val (.int (0 : Int32))] [(.int (8 : Int32)), (.int P0)])) _
        refine XS.iand X168.here hx rfl (hb hby d1_80) rfl ?_
        show Steps p.tables e below (T168.setTop (mkF m 81 #[.val (.int P0), .val (.int P1), .val (.int P2), .val (.int P3), .val (.int P4), .val (.int ((((P0 &&& (1 : Int32)) + ((P0 >>> ((1 : Int32) &&& 31)) &&& (1 : Int32))) + ((P0 >>> ((2 : Int32) &&& 31)) &&& (1 : Int32))) + ((P0 >>> ((3 : Int32) &&& 31)) &&& (1 : Int32)))), .val (.ref b168), .val (.int (0 : Int32))] [(.int (P0 &&& (8 : Int32)))])) _
        refine XS.ifNo X168.here hx rfl (hb hby d1_81) rfl ((if0 _ _).trans (feq (show ¬ ((P0 &&& (8 : Int32)) = (0 : Int32)) from (by first | decide | (rw [hk]; decide)))).1) ?_
        show Steps p.tables e below (T168.setTop (mkF m 84 #[.val (.int P0), .val (.int P1), .val (.int P2), .val (.int P3), .val (.int P4), .val (.int ((((P0 &&& (1 : Int32)) + ((P0 >>> ((1 : Int32) &&& 31)) &&& (1 : Int32))) + ((P0 >>> ((2 : Int32) &&& 31)) &&& (1 : Int32))) + ((P0 >>> ((3 : Int32) &&& 31)) &&& (1 : Int32)))), .val (.ref b168), .val (.int (0 : Int32))] [])) _
        refine XS.aload X168.here hx rfl (hb hby d1_84) rfl rfl ?_
        show Steps p.tables e below (T168.setTop (mkF m 86 #[.val (.int P0), .val (.int P1), .val (.int P2), .val (.int P3), .val (.int P4), .val (.int ((((P0 &&& (1 : Int32)) + ((P0 >>> ((1 : Int32) &&& 31)) &&& (1 : Int32))) + ((P0 >>> ((2 : Int32) &&& 31)) &&& (1 : Int32))) + ((P0 >>> ((3 : Int32) &&& 31)) &&& (1 : Int32)))), .val (.ref b168), .val (.int (0 : Int32))] [(.ref b168)])) _
        refine XS.iload X168.here hx rfl (hb hby d1_86) rfl ?_
        show Steps p.tables e below (T168.setTop (mkF m 88 #[.val (.int P0), .val (.int P1), .val (.int P2), .val (.int P3), .val (.int P4), .val (.int ((((P0 &&& (1 : Int32)) + ((P0 >>> ((1 : Int32) &&& 31)) &&& (1 : Int32))) + ((P0 >>> ((2 : Int32) &&& 31)) &&& (1 : Int32))) + ((P0 >>> ((3 : Int32) &&& 31)) &&& (1 : Int32)))), .val (.ref b168), .val (.int (0 : Int32))] [(.int (0 : Int32)), (.ref b168)])) _
        refine XS.iload X168.here hx rfl (hb hby d1_88) rfl ?_
        show Steps p.tables e below (T168.setTop (mkF m 90 #[.val (.int P0), .val (.int P1), .val (.int P2), .val (.int P3), .val (.int P4), .val (.int ((((P0 &&& (1 : Int32)) + ((P0 >>> ((1 : Int32) &&& 31)) &&& (1 : Int32))) + ((P0 >>> ((2 : Int32) &&& 31)) &&& (1 : Int32))) + ((P0 >>> ((3 : Int32) &&& 31)) &&& (1 : Int32)))), .val (.ref b168), .val (.int (0 : Int32))] [(.int P4), (.int (0 : Int32)), (.ref b168)])) _
        refine st171 _ ?_
        show Steps p.tables e below (T171.setTop (mkF m 91 #[.val (.int P0), .val (.int P1), .val (.int P2), .val (.int P3), .val (.int P4), .val (.int ((((P0 &&& (1 : Int32)) + ((P0 >>> ((1 : Int32) &&& 31)) &&& (1 : Int32))) + ((P0 >>> ((2 : Int32) &&& 31)) &&& (1 : Int32))) + ((P0 >>> ((3 : Int32) &&& 31)) &&& (1 : Int32)))), .val (.ref b168), .val (.int (0 : Int32))] [])) _
        refine XS.iinc X171.here hx rfl (hb hby d1_91) rfl (l' := #[.val (.int P0), .val (.int P1), .val (.int P2), .val (.int P3), .val (.int P4), .val (.int ((((P0 &&& (1 : Int32)) + ((P0 >>> ((1 : Int32) &&& 31)) &&& (1 : Int32))) + ((P0 >>> ((2 : Int32) &&& 31)) &&& (1 : Int32))) + ((P0 >>> ((3 : Int32) &&& 31)) &&& (1 : Int32)))), .val (.ref b168), .val (.int ((0 : Int32) + (1 : Int32)))]) rfl ?_
        show Steps p.tables e below (T171.setTop (mkF m 94 #[.val (.int P0), .val (.int P1), .val (.int P2), .val (.int P3), .val (.int P4), .val (.int ((((P0 &&& (1 : Int32)) + ((P0 >>> ((1 : Int32) &&& 31)) &&& (1 : Int32))) + ((P0 >>> ((2 : Int32) &&& 31)) &&& (1 : Int32))) + ((P0 >>> ((3 : Int32) &&& 31)) &&& (1 : Int32)))), .val (.ref b168), .val (.int ((0 : Int32) + (1 : Int32)))] [])) _
        refine XS.aload X171.here hx rfl (hb hby d1_94) rfl rfl ?_
        exact kt)
    have hsel : (own_sel P0 P1 P2 P3 P4).map Value.int = [(.int P4)] := by rw [hk, own_sel8]; rfl
    have c174 : Exa Z h171 b168 "[I" := (EX168.wr W171)
    obtain ⟨fs, hr, hrun, hended, hW, hsame⟩ := X171.leave (v := some (.ref b168)) (fun h => by rw [Bd.returns] at h; cases h)
    refine ⟨_, _, pre173 _ ?_, hrun, hended, _, _, rfl, ?_, ⟨_, rfl⟩, hW, hsame.mono (by decide) (by decide)⟩
    · show Steps p.tables e below (T171.setTop (mkF m 96 #[.val (.int P0), .val (.int P1), .val (.int P2), .val (.int P3), .val (.int P4), .val (.int ((((P0 &&& (1 : Int32)) + ((P0 >>> ((1 : Int32) &&& 31)) &&& (1 : Int32))) + ((P0 >>> ((2 : Int32) &&& 31)) &&& (1 : Int32))) + ((P0 >>> ((3 : Int32) &&& 31)) &&& (1 : Int32)))), .val (.ref b168), .val (.int ((0 : Int32) + (1 : Int32)))] [(.ref b168)])) _
      exact retOut X171 hx Bd.returns rfl (Or.inr (Or.inr (Or.inr (Or.inr ⟨rfl, rfl, rfl⟩)))) (hb hby d1_96) hr
    · show Q1 Z P0 P1 P2 P3 P4 h0 n0 _ T171.heap _
      rw [e171]
      exact ⟨b168, k168, rfl, N171, K_172, sz_b168, c174, (by rw [hsel]; exact V171)⟩
  · obtain ⟨T175, h175, k175, X175, e175, E175, A175, EX175, st175⟩ := newPE X0 hx hZ (hw _ (List.mem_of_getElem? (i := 8) rfl)) e0 (g := (mkF m 25 #[.val (.int P0), .val (.int P1), .val (.int P2), .val (.int P3), .val (.int P4), .val (.int ((((P0 &&& (1 : Int32)) + ((P0 >>> ((1 : Int32) &&& 31)) &&& (1 : Int32))) + ((P0 >>> ((2 : Int32) &&& 31)) &&& (1 : Int32))) + ((P0 >>> ((3 : Int32) &&& 31)) &&& (1 : Int32)))), .unset, .unset] [(.int ((((P0 &&& (1 : Int32)) + ((P0 >>> ((1 : Int32) &&& 31)) &&& (1 : Int32))) + ((P0 >>> ((2 : Int32) &&& 31)) &&& (1 : Int32))) + ((P0 >>> ((3 : Int32) &&& 31)) &&& (1 : Int32))))])) rfl (hb hby d1_25) rfl (by first | decide | (rw [hk]; decide)) (cap := 4) (by first | decide | (rw [hk]; decide)) (by decide) (by decide) (by decide) (ad := "[I") (by decide)
    obtain ⟨b175, q175⟩ : ∃ z, z = h0.size := ⟨_, rfl⟩
    rw [← q175] at A175 EX175 st175
    have g_b175 : n0 ≤ b175 := Nat.le_trans Z0 (Nat.le_of_eq q175.symm)
    have sz_b175 : h0.size ≤ b175 := Nat.le_trans K_0.1 (Nat.le_of_eq q175.symm)
    have Z176 : n0 ≤ h175.size := Nat.le_trans Z0 E175.1
    have K_176 : Keep h0 h175 [] := K_0.ext E175
    have V175 : Arv Z h175 b175 k175 .int ((((P0 &&& (1 : Int32)) + ((P0 >>> ((1 : Int32) &&& 31)) &&& (1 : Int32))) + ((P0 >>> ((2 : Int32) &&& 31)) &&& (1 : Int32))) + ((P0 >>> ((3 : Int32) &&& 31)) &&& (1 : Int32))) [(.int (0 : Int32)), (.int (0 : Int32))] (.int (0 : Int32)) := (Arv.new A175 (by first | decide | (rw [hk]; decide))).pad (pad_rep [] (.int (0 : Int32)) 2)
    obtain ⟨cl177, Ar177, q177, S177, N_177, H177, G177⟩ := id V175
    have hin177 : ¬ ((0 : Int32) < 0 ∨ cl177.slots.size ≤ ((0 : Int32)).toNatClampNeg) := inb_of S177 ⟨by first | decide | (rw [hk]; decide), by first | decide | (rw [hk]; decide)⟩
    obtain ⟨T178, h178, X178, e178, W178, st178⟩ := stI X175 hx hZ e175 Ar177 (j := (0 : Int32)) hin177 (g := (mkF m 43 #[.val (.int P0), .val (.int P1), .val (.int P2), .val (.int P3), .val (.int P4), .val (.int ((((P0 &&& (1 : Int32)) + ((P0 >>> ((1 : Int32) &&& 31)) &&& (1 : Int32))) + ((P0 >>> ((2 : Int32) &&& 31)) &&& (1 : Int32))) + ((P0 >>> ((3 : Int32) &&& 31)) &&& (1 : Int32)))), .val (.ref b175), .val (.int (0 : Int32))] [(.int P1), (.int (0 : Int32)), (.ref b175)])) rfl rfl (hb hby d1_43)
    have Z179 : n0 ≤ h178.size := Nat.le_trans Z176 (Nat.le_of_eq W178.size.symm)
    have K_179 : Keep h0 h178 [] := K_176.wr W178 (Or.inr sz_b175)
    have V178 : Arv Z h178 b175 k175 .int ((((P0 &&& (1 : Int32)) + ((P0 >>> ((1 : Int32) &&& 31)) &&& (1 : Int32))) + ((P0 >>> ((2 : Int32) &&& 31)) &&& (1 : Int32))) + ((P0 >>> ((3 : Int32) &&& 31)) &&& (1 : Int32))) [(.int P1), (.int (0 : Int32))] (.int (0 : Int32)) := Arv.set Ar177 q177 S177 N_177 H177 G177 rfl W178 0 rfl (Nat.le_of_ble_eq_true rfl)
    have N178 := Fr.snoc X178 N0 g_b175
    obtain ⟨cl180, Ar180, q180, S180, N_180, H180, G180⟩ := id V178
    have hin180 : ¬ (((0 : Int32) + (1 : Int32)) < 0 ∨ cl180.slots.size ≤ (((0 : Int32) + (1 : Int32))).toNatClampNeg) := inb_of S180 ⟨by first | decide | (rw [hk]; decide), by first | decide | (rw [hk]; decide)⟩
    obtain ⟨T181, h181, X181, e181, W181, st181⟩ := stI X178 hx hZ e178 Ar180 (j := ((0 : Int32) + (1 : Int32))) hin180 (g := (mkF m 90 #[.val (.int P0), .val (.int P1), .val (.int P2), .val (.int P3), .val (.int P4), .val (.int ((((P0 &&& (1 : Int32)) + ((P0 >>> ((1 : Int32) &&& 31)) &&& (1 : Int32))) + ((P0 >>> ((2 : Int32) &&& 31)) &&& (1 : Int32))) + ((P0 >>> ((3 : Int32) &&& 31)) &&& (1 : Int32)))), .val (.ref b175), .val (.int ((0 : Int32) + (1 : Int32)))] [(.int P4), (.int ((0 : Int32) + (1 : Int32))), (.ref b175)])) rfl rfl (hb hby d1_90)
    have Z182 : n0 ≤ h181.size := Nat.le_trans Z179 (Nat.le_of_eq W181.size.symm)
    have K_182 : Keep h0 h181 [] := K_179.wr W181 (Or.inr sz_b175)
    have V181 : Arv Z h181 b175 k175 .int ((((P0 &&& (1 : Int32)) + ((P0 >>> ((1 : Int32) &&& 31)) &&& (1 : Int32))) + ((P0 >>> ((2 : Int32) &&& 31)) &&& (1 : Int32))) + ((P0 >>> ((3 : Int32) &&& 31)) &&& (1 : Int32))) [(.int P1), (.int P4)] (.int (0 : Int32)) := Arv.set Ar180 q180 S180 N_180 H180 G180 rfl W181 1 (by decide) (Nat.le_of_ble_eq_true rfl)
    have N181 := Fr.snoc X181 N178 g_b175
    have pre183 : ∀ t, Steps p.tables e below (T181.setTop (mkF m 96 #[.val (.int P0), .val (.int P1), .val (.int P2), .val (.int P3), .val (.int P4), .val (.int ((((P0 &&& (1 : Int32)) + ((P0 >>> ((1 : Int32) &&& 31)) &&& (1 : Int32))) + ((P0 >>> ((2 : Int32) &&& 31)) &&& (1 : Int32))) + ((P0 >>> ((3 : Int32) &&& 31)) &&& (1 : Int32)))), .val (.ref b175), .val (.int (((0 : Int32) + (1 : Int32)) + (1 : Int32)))] [(.ref b175)])) t → Steps p.tables e below (s₁.setTop (entryFrame m #[(.int P0), (.int P1), (.int P2), (.int P3), (.int P4)] 8)) t := fun t kt => pre0 t (by
        show Steps p.tables e below (s₁.setTop (mkF m 0 #[.val (.int P0), .val (.int P1), .val (.int P2), .val (.int P3), .val (.int P4), .unset, .unset, .unset] [])) _
        refine XS.iloadN X0.here hx rfl (hb hby d1_0) rfl ?_
        show Steps p.tables e below (s₁.setTop (mkF m 1 #[.val (.int P0), .val (.int P1), .val (.int P2), .val (.int P3), .val (.int P4), .unset, .unset, .unset] [(.int P0)])) _
        refine XS.iconst X0.here hx rfl (hb hby d1_1) ?_
        show Steps p.tables e below (s₁.setTop (mkF m 2 #[.val (.int P0), .val (.int P1), .val (.int P2), .val (.int P3), .val (.int P4), .unset, .unset, .unset] [(.int (1 : Int32)), (.int P0)])) _
        refine XS.iand X0.here hx rfl (hb hby d1_2) rfl ?_
        show Steps p.tables e below (s₁.setTop (mkF m 3 #[.val (.int P0), .val (.int P1), .val (.int P2), .val (.int P3), .val (.int P4), .unset, .unset, .unset] [(.int (P0 &&& (1 : Int32)))])) _
        refine XS.iloadN X0.here hx rfl (hb hby d1_3) rfl ?_
        show Steps p.tables e below (s₁.setTop (mkF m 4 #[.val (.int P0), .val (.int P1), .val (.int P2), .val (.int P3), .val (.int P4), .unset, .unset, .unset] [(.int P0), (.int (P0 &&& (1 : Int32)))])) _
        refine XS.iconst X0.here hx rfl (hb hby d1_4) ?_
        show Steps p.tables e below (s₁.setTop (mkF m 5 #[.val (.int P0), .val (.int P1), .val (.int P2), .val (.int P3), .val (.int P4), .unset, .unset, .unset] [(.int (1 : Int32)), (.int P0), (.int (P0 &&& (1 : Int32)))])) _
        refine XS.ishr X0.here hx rfl (hb hby d1_5) rfl ?_
        show Steps p.tables e below (s₁.setTop (mkF m 6 #[.val (.int P0), .val (.int P1), .val (.int P2), .val (.int P3), .val (.int P4), .unset, .unset, .unset] [(.int (P0 >>> ((1 : Int32) &&& 31))), (.int (P0 &&& (1 : Int32)))])) _
        refine XS.iconst X0.here hx rfl (hb hby d1_6) ?_
        show Steps p.tables e below (s₁.setTop (mkF m 7 #[.val (.int P0), .val (.int P1), .val (.int P2), .val (.int P3), .val (.int P4), .unset, .unset, .unset] [(.int (1 : Int32)), (.int (P0 >>> ((1 : Int32) &&& 31))), (.int (P0 &&& (1 : Int32)))])) _
        refine XS.iand X0.here hx rfl (hb hby d1_7) rfl ?_
        show Steps p.tables e below (s₁.setTop (mkF m 8 #[.val (.int P0), .val (.int P1), .val (.int P2), .val (.int P3), .val (.int P4), .unset, .unset, .unset] [(.int ((P0 >>> ((1 : Int32) &&& 31)) &&& (1 : Int32))), (.int (P0 &&& (1 : Int32)))])) _
        refine XS.iadd X0.here hx rfl (hb hby d1_8) rfl ?_
        show Steps p.tables e below (s₁.setTop (mkF m 9 #[.val (.int P0), .val (.int P1), .val (.int P2), .val (.int P3), .val (.int P4), .unset, .unset, .unset] [(.int ((P0 &&& (1 : Int32)) + ((P0 >>> ((1 : Int32) &&& 31)) &&& (1 : Int32))))])) _
        refine XS.iloadN X0.here hx rfl (hb hby d1_9) rfl ?_
        show Steps p.tables e below (s₁.setTop (mkF m 10 #[.val (.int P0), .val (.int P1), .val (.int P2), .val (.int P3), .val (.int P4), .unset, .unset, .unset] [(.int P0), (.int ((P0 &&& (1 : Int32)) + ((P0 >>> ((1 : Int32) &&& 31)) &&& (1 : Int32))))])) _
        refine XS.iconst X0.here hx rfl (hb hby d1_10) ?_
        show Steps p.tables e below (s₁.setTop (mkF m 11 #[.val (.int P0), .val (.int P1), .val (.int P2), .val (.int P3), .val (.int P4), .unset, .unset, .unset] [(.int (2 : Int32)), (.int P0), (.int ((P0 &&& (1 : Int32)) + ((P0 >>> ((1 : Int32) &&& 31)) &&& (1 : Int32))))])) _
        refine XS.ishr X0.here hx rfl (hb hby d1_11) rfl ?_
        show Steps p.tables e below (s₁.setTop (mkF m 12 #[.val (.int P0), .val (.int P1), .val (.int P2), .val (.int P3), .val (.int P4), .unset, .unset, .unset] [(.int (P0 >>> ((2 : Int32) &&& 31))), (.int ((P0 &&& (1 : Int32)) + ((P0 >>> ((1 : Int32) &&& 31)) &&& (1 : Int32))))])) _
        refine XS.iconst X0.here hx rfl (hb hby d1_12) ?_
        show Steps p.tables e below (s₁.setTop (mkF m 13 #[.val (.int P0), .val (.int P1), .val (.int P2), .val (.int P3), .val (.int P4), .unset, .unset, .unset] [(.int (1 : Int32)), (.int (P0 >>> ((2 : Int32) &&& 31))), (.int ((P0 &&& (1 : Int32)) + ((P0 >>> ((1 : Int32) &&& 31)) &&& (1 : Int32))))])) _
        refine XS.iand X0.here hx rfl (hb hby d1_13) rfl ?_
        show Steps p.tables e below (s₁.setTop (mkF m 14 #[.val (.int P0), .val (.int P1), .val (.int P2), .val (.int P3), .val (.int P4), .unset, .unset, .unset] [(.int ((P0 >>> ((2 : Int32) &&& 31)) &&& (1 : Int32))), (.int ((P0 &&& (1 : Int32)) + ((P0 >>> ((1 : Int32) &&& 31)) &&& (1 : Int32))))])) _
        refine XS.iadd X0.here hx rfl (hb hby d1_14) rfl ?_
        show Steps p.tables e below (s₁.setTop (mkF m 15 #[.val (.int P0), .val (.int P1), .val (.int P2), .val (.int P3), .val (.int P4), .unset, .unset, .unset] [(.int (((P0 &&& (1 : Int32)) + ((P0 >>> ((1 : Int32) &&& 31)) &&& (1 : Int32))) + ((P0 >>> ((2 : Int32) &&& 31)) &&& (1 : Int32))))])) _
        refine XS.iloadN X0.here hx rfl (hb hby d1_15) rfl ?_
        show Steps p.tables e below (s₁.setTop (mkF m 16 #[.val (.int P0), .val (.int P1), .val (.int P2), .val (.int P3), .val (.int P4), .unset, .unset, .unset] [(.int P0), (.int (((P0 &&& (1 : Int32)) + ((P0 >>> ((1 : Int32) &&& 31)) &&& (1 : Int32))) + ((P0 >>> ((2 : Int32) &&& 31)) &&& (1 : Int32))))])) _
        refine XS.iconst X0.here hx rfl (hb hby d1_16) ?_
        show Steps p.tables e below (s₁.setTop (mkF m 17 #[.val (.int P0), .val (.int P1), .val (.int P2), .val (.int P3), .val (.int P4), .unset, .unset, .unset] [(.int (3 : Int32)), (.int P0), (.int (((P0 &&& (1 : Int32)) + ((P0 >>> ((1 : Int32) &&& 31)) &&& (1 : Int32))) + ((P0 >>> ((2 : Int32) &&& 31)) &&& (1 : Int32))))])) _
        refine XS.ishr X0.here hx rfl (hb hby d1_17) rfl ?_
        show Steps p.tables e below (s₁.setTop (mkF m 18 #[.val (.int P0), .val (.int P1), .val (.int P2), .val (.int P3), .val (.int P4), .unset, .unset, .unset] [(.int (P0 >>> ((3 : Int32) &&& 31))), (.int (((P0 &&& (1 : Int32)) + ((P0 >>> ((1 : Int32) &&& 31)) &&& (1 : Int32))) + ((P0 >>> ((2 : Int32) &&& 31)) &&& (1 : Int32))))])) _
        refine XS.iconst X0.here hx rfl (hb hby d1_18) ?_
        show Steps p.tables e below (s₁.setTop (mkF m 19 #[.val (.int P0), .val (.int P1), .val (.int P2), .val (.int P3), .val (.int P4), .unset, .unset, .unset] [(.int (1 : Int32)), (.int (P0 >>> ((3 : Int32) &&& 31))), (.int (((P0 &&& (1 : Int32)) + ((P0 >>> ((1 : Int32) &&& 31)) &&& (1 : Int32))) + ((P0 >>> ((2 : Int32) &&& 31)) &&& (1 : Int32))))])) _
        refine XS.iand X0.here hx rfl (hb hby d1_19) rfl ?_
        show Steps p.tables e below (s₁.setTop (mkF m 20 #[.val (.int P0), .val (.int P1), .val (.int P2), .val (.int P3), .val (.int P4), .unset, .unset, .unset] [(.int ((P0 >>> ((3 : Int32) &&& 31)) &&& (1 : Int32))), (.int (((P0 &&& (1 : Int32)) + ((P0 >>> ((1 : Int32) &&& 31)) &&& (1 : Int32))) + ((P0 >>> ((2 : Int32) &&& 31)) &&& (1 : Int32))))])) _
        refine XS.iadd X0.here hx rfl (hb hby d1_20) rfl ?_
        show Steps p.tables e below (s₁.setTop (mkF m 21 #[.val (.int P0), .val (.int P1), .val (.int P2), .val (.int P3), .val (.int P4), .unset, .unset, .unset] [(.int ((((P0 &&& (1 : Int32)) + ((P0 >>> ((1 : Int32) &&& 31)) &&& (1 : Int32))) + ((P0 >>> ((2 : Int32) &&& 31)) &&& (1 : Int32))) + ((P0 >>> ((3 : Int32) &&& 31)) &&& (1 : Int32))))])) _
        refine XS.istore X0.here hx rfl (hb hby d1_21) rfl (l' := #[.val (.int P0), .val (.int P1), .val (.int P2), .val (.int P3), .val (.int P4), .val (.int ((((P0 &&& (1 : Int32)) + ((P0 >>> ((1 : Int32) &&& 31)) &&& (1 : Int32))) + ((P0 >>> ((2 : Int32) &&& 31)) &&& (1 : Int32))) + ((P0 >>> ((3 : Int32) &&& 31)) &&& (1 : Int32)))), .unset, .unset]) rfl ?_
        show Steps p.tables e below (s₁.setTop (mkF m 23 #[.val (.int P0), .val (.int P1), .val (.int P2), .val (.int P3), .val (.int P4), .val (.int ((((P0 &&& (1 : Int32)) + ((P0 >>> ((1 : Int32) &&& 31)) &&& (1 : Int32))) + ((P0 >>> ((2 : Int32) &&& 31)) &&& (1 : Int32))) + ((P0 >>> ((3 : Int32) &&& 31)) &&& (1 : Int32)))), .unset, .unset] [])) _
        refine XS.iload X0.here hx rfl (hb hby d1_23) rfl ?_
        show Steps p.tables e below (s₁.setTop (mkF m 25 #[.val (.int P0), .val (.int P1), .val (.int P2), .val (.int P3), .val (.int P4), .val (.int ((((P0 &&& (1 : Int32)) + ((P0 >>> ((1 : Int32) &&& 31)) &&& (1 : Int32))) + ((P0 >>> ((2 : Int32) &&& 31)) &&& (1 : Int32))) + ((P0 >>> ((3 : Int32) &&& 31)) &&& (1 : Int32)))), .unset, .unset] [(.int ((((P0 &&& (1 : Int32)) + ((P0 >>> ((1 : Int32) &&& 31)) &&& (1 : Int32))) + ((P0 >>> ((2 : Int32) &&& 31)) &&& (1 : Int32))) + ((P0 >>> ((3 : Int32) &&& 31)) &&& (1 : Int32))))])) _
        refine st175 _ ?_
        show Steps p.tables e below (T175.setTop (mkF m 27 #[.val (.int P0), .val (.int P1), .val (.int P2), .val (.int P3), .val (.int P4), .val (.int ((((P0 &&& (1 : Int32)) + ((P0 >>> ((1 : Int32) &&& 31)) &&& (1 : Int32))) + ((P0 >>> ((2 : Int32) &&& 31)) &&& (1 : Int32))) + ((P0 >>> ((3 : Int32) &&& 31)) &&& (1 : Int32)))), .unset, .unset] [(.ref b175)])) _
        refine XS.astore X175.here hx rfl (hb hby d1_27) rfl rfl (l' := #[.val (.int P0), .val (.int P1), .val (.int P2), .val (.int P3), .val (.int P4), .val (.int ((((P0 &&& (1 : Int32)) + ((P0 >>> ((1 : Int32) &&& 31)) &&& (1 : Int32))) + ((P0 >>> ((2 : Int32) &&& 31)) &&& (1 : Int32))) + ((P0 >>> ((3 : Int32) &&& 31)) &&& (1 : Int32)))), .val (.ref b175), .unset]) rfl ?_
        show Steps p.tables e below (T175.setTop (mkF m 29 #[.val (.int P0), .val (.int P1), .val (.int P2), .val (.int P3), .val (.int P4), .val (.int ((((P0 &&& (1 : Int32)) + ((P0 >>> ((1 : Int32) &&& 31)) &&& (1 : Int32))) + ((P0 >>> ((2 : Int32) &&& 31)) &&& (1 : Int32))) + ((P0 >>> ((3 : Int32) &&& 31)) &&& (1 : Int32)))), .val (.ref b175), .unset] [])) _
        refine XS.iconst X175.here hx rfl (hb hby d1_29) ?_
        show Steps p.tables e below (T175.setTop (mkF m 30 #[.val (.int P0), .val (.int P1), .val (.int P2), .val (.int P3), .val (.int P4), .val (.int ((((P0 &&& (1 : Int32)) + ((P0 >>> ((1 : Int32) &&& 31)) &&& (1 : Int32))) + ((P0 >>> ((2 : Int32) &&& 31)) &&& (1 : Int32))) + ((P0 >>> ((3 : Int32) &&& 31)) &&& (1 : Int32)))), .val (.ref b175), .unset] [(.int (0 : Int32))])) _
        refine XS.istore X175.here hx rfl (hb hby d1_30) rfl (l' := #[.val (.int P0), .val (.int P1), .val (.int P2), .val (.int P3), .val (.int P4), .val (.int ((((P0 &&& (1 : Int32)) + ((P0 >>> ((1 : Int32) &&& 31)) &&& (1 : Int32))) + ((P0 >>> ((2 : Int32) &&& 31)) &&& (1 : Int32))) + ((P0 >>> ((3 : Int32) &&& 31)) &&& (1 : Int32)))), .val (.ref b175), .val (.int (0 : Int32))]) rfl ?_
        show Steps p.tables e below (T175.setTop (mkF m 32 #[.val (.int P0), .val (.int P1), .val (.int P2), .val (.int P3), .val (.int P4), .val (.int ((((P0 &&& (1 : Int32)) + ((P0 >>> ((1 : Int32) &&& 31)) &&& (1 : Int32))) + ((P0 >>> ((2 : Int32) &&& 31)) &&& (1 : Int32))) + ((P0 >>> ((3 : Int32) &&& 31)) &&& (1 : Int32)))), .val (.ref b175), .val (.int (0 : Int32))] [])) _
        refine XS.iloadN X175.here hx rfl (hb hby d1_32) rfl ?_
        show Steps p.tables e below (T175.setTop (mkF m 33 #[.val (.int P0), .val (.int P1), .val (.int P2), .val (.int P3), .val (.int P4), .val (.int ((((P0 &&& (1 : Int32)) + ((P0 >>> ((1 : Int32) &&& 31)) &&& (1 : Int32))) + ((P0 >>> ((2 : Int32) &&& 31)) &&& (1 : Int32))) + ((P0 >>> ((3 : Int32) &&& 31)) &&& (1 : Int32)))), .val (.ref b175), .val (.int (0 : Int32))] [(.int P0)])) _
        refine XS.iconst X175.here hx rfl (hb hby d1_33) ?_
        show Steps p.tables e below (T175.setTop (mkF m 34 #[.val (.int P0), .val (.int P1), .val (.int P2), .val (.int P3), .val (.int P4), .val (.int ((((P0 &&& (1 : Int32)) + ((P0 >>> ((1 : Int32) &&& 31)) &&& (1 : Int32))) + ((P0 >>> ((2 : Int32) &&& 31)) &&& (1 : Int32))) + ((P0 >>> ((3 : Int32) &&& 31)) &&& (1 : Int32)))), .val (.ref b175), .val (.int (0 : Int32))] [(.int (1 : Int32)), (.int P0)])) _
        refine XS.iand X175.here hx rfl (hb hby d1_34) rfl ?_
        show Steps p.tables e below (T175.setTop (mkF m 35 #[.val (.int P0), .val (.int P1), .val (.int P2), .val (.int P3), .val (.int P4), .val (.int ((((P0 &&& (1 : Int32)) + ((P0 >>> ((1 : Int32) &&& 31)) &&& (1 : Int32))) + ((P0 >>> ((2 : Int32) &&& 31)) &&& (1 : Int32))) + ((P0 >>> ((3 : Int32) &&& 31)) &&& (1 : Int32)))), .val (.ref b175), .val (.int (0 : Int32))] [(.int (P0 &&& (1 : Int32)))])) _
        refine XS.ifNo X175.here hx rfl (hb hby d1_35) rfl ((if0 _ _).trans (feq (show ¬ ((P0 &&& (1 : Int32)) = (0 : Int32)) from (by first | decide | (rw [hk]; decide)))).1) ?_
        show Steps p.tables e below (T175.setTop (mkF m 38 #[.val (.int P0), .val (.int P1), .val (.int P2), .val (.int P3), .val (.int P4), .val (.int ((((P0 &&& (1 : Int32)) + ((P0 >>> ((1 : Int32) &&& 31)) &&& (1 : Int32))) + ((P0 >>> ((2 : Int32) &&& 31)) &&& (1 : Int32))) + ((P0 >>> ((3 : Int32) &&& 31)) &&& (1 : Int32)))), .val (.ref b175), .val (.int (0 : Int32))] [])) _
        refine XS.aload X175.here hx rfl (hb hby d1_38) rfl rfl ?_
        show Steps p.tables e below (T175.setTop (mkF m 40 #[.val (.int P0), .val (.int P1), .val (.int P2), .val (.int P3), .val (.int P4), .val (.int ((((P0 &&& (1 : Int32)) + ((P0 >>> ((1 : Int32) &&& 31)) &&& (1 : Int32))) + ((P0 >>> ((2 : Int32) &&& 31)) &&& (1 : Int32))) + ((P0 >>> ((3 : Int32) &&& 31)) &&& (1 : Int32)))), .val (.ref b175), .val (.int (0 : Int32))] [(.ref b175)])) _
        refine XS.iload X175.here hx rfl (hb hby d1_40) rfl ?_
        show Steps p.tables e below (T175.setTop (mkF m 42 #[.val (.int P0), .val (.int P1), .val (.int P2), .val (.int P3), .val (.int P4), .val (.int ((((P0 &&& (1 : Int32)) + ((P0 >>> ((1 : Int32) &&& 31)) &&& (1 : Int32))) + ((P0 >>> ((2 : Int32) &&& 31)) &&& (1 : Int32))) + ((P0 >>> ((3 : Int32) &&& 31)) &&& (1 : Int32)))), .val (.ref b175), .val (.int (0 : Int32))] [(.int (0 : Int32)), (.ref b175)])) _
        refine XS.iloadN X175.here hx rfl (hb hby d1_42) rfl ?_
        show Steps p.tables e below (T175.setTop (mkF m 43 #[.val (.int P0), .val (.int P1), .val (.int P2), .val (.int P3), .val (.int P4), .val (.int ((((P0 &&& (1 : Int32)) + ((P0 >>> ((1 : Int32) &&& 31)) &&& (1 : Int32))) + ((P0 >>> ((2 : Int32) &&& 31)) &&& (1 : Int32))) + ((P0 >>> ((3 : Int32) &&& 31)) &&& (1 : Int32)))), .val (.ref b175), .val (.int (0 : Int32))] [(.int P1), (.int (0 : Int32)), (.ref b175)])) _
        refine st178 _ ?_
        show Steps p.tables e below (T178.setTop (mkF m 44 #[.val (.int P0), .val (.int P1), .val (.int P2), .val (.int P3), .val (.int P4), .val (.int ((((P0 &&& (1 : Int32)) + ((P0 >>> ((1 : Int32) &&& 31)) &&& (1 : Int32))) + ((P0 >>> ((2 : Int32) &&& 31)) &&& (1 : Int32))) + ((P0 >>> ((3 : Int32) &&& 31)) &&& (1 : Int32)))), .val (.ref b175), .val (.int (0 : Int32))] [])) _
        refine XS.iinc X178.here hx rfl (hb hby d1_44) rfl (l' := #[.val (.int P0), .val (.int P1), .val (.int P2), .val (.int P3), .val (.int P4), .val (.int ((((P0 &&& (1 : Int32)) + ((P0 >>> ((1 : Int32) &&& 31)) &&& (1 : Int32))) + ((P0 >>> ((2 : Int32) &&& 31)) &&& (1 : Int32))) + ((P0 >>> ((3 : Int32) &&& 31)) &&& (1 : Int32)))), .val (.ref b175), .val (.int ((0 : Int32) + (1 : Int32)))]) rfl ?_
        show Steps p.tables e below (T178.setTop (mkF m 47 #[.val (.int P0), .val (.int P1), .val (.int P2), .val (.int P3), .val (.int P4), .val (.int ((((P0 &&& (1 : Int32)) + ((P0 >>> ((1 : Int32) &&& 31)) &&& (1 : Int32))) + ((P0 >>> ((2 : Int32) &&& 31)) &&& (1 : Int32))) + ((P0 >>> ((3 : Int32) &&& 31)) &&& (1 : Int32)))), .val (.ref b175), .val (.int ((0 : Int32) + (1 : Int32)))] [])) _
        refine XS.iloadN X178.here hx rfl (hb hby d1_47) rfl ?_
        show Steps p.tables e below (T178.setTop (mkF m 48 #[.val (.int P0), .val (.int P1), .val (.int P2), .val (.int P3), .val (.int P4), .val (.int ((((P0 &&& (1 : Int32)) + ((P0 >>> ((1 : Int32) &&& 31)) &&& (1 : Int32))) + ((P0 >>> ((2 : Int32) &&& 31)) &&& (1 : Int32))) + ((P0 >>> ((3 : Int32) &&& 31)) &&& (1 : Int32)))), .val (.ref b175), .val (.int ((0 : Int32) + (1 : Int32)))] [(.int P0)])) _
        refine XS.iconst X178.here hx rfl (hb hby d1_48) ?_
        show Steps p.tables e below (T178.setTop (mkF m 49 #[.val (.int P0), .val (.int P1), .val (.int P2), .val (.int P3), .val (.int P4), .val (.int ((((P0 &&& (1 : Int32)) + ((P0 >>> ((1 : Int32) &&& 31)) &&& (1 : Int32))) + ((P0 >>> ((2 : Int32) &&& 31)) &&& (1 : Int32))) + ((P0 >>> ((3 : Int32) &&& 31)) &&& (1 : Int32)))), .val (.ref b175), .val (.int ((0 : Int32) + (1 : Int32)))] [(.int (2 : Int32)), (.int P0)])) _
        refine XS.iand X178.here hx rfl (hb hby d1_49) rfl ?_
        show Steps p.tables e below (T178.setTop (mkF m 50 #[.val (.int P0), .val (.int P1), .val (.int P2), .val (.int P3), .val (.int P4), .val (.int ((((P0 &&& (1 : Int32)) + ((P0 >>> ((1 : Int32) &&& 31)) &&& (1 : Int32))) + ((P0 >>> ((2 : Int32) &&& 31)) &&& (1 : Int32))) + ((P0 >>> ((3 : Int32) &&& 31)) &&& (1 : Int32)))), .val (.ref b175), .val (.int ((0 : Int32) + (1 : Int32)))] [(.int (P0 &&& (2 : Int32)))])) _
        refine XS.ifYes X178.here hx rfl (pc0 := 50) (pc' := 62) rfl (hb hby d1_50) rfl ((if0 _ _).trans (teq (show (P0 &&& (2 : Int32)) = (0 : Int32) from (by first | decide | (rw [hk]; decide)))).1) (by decide) (by decide) ?_
        show Steps p.tables e below (T178.setTop (mkF m 62 #[.val (.int P0), .val (.int P1), .val (.int P2), .val (.int P3), .val (.int P4), .val (.int ((((P0 &&& (1 : Int32)) + ((P0 >>> ((1 : Int32) &&& 31)) &&& (1 : Int32))) + ((P0 >>> ((2 : Int32) &&& 31)) &&& (1 : Int32))) + ((P0 >>> ((3 : Int32) &&& 31)) &&& (1 : Int32)))), .val (.ref b175), .val (.int ((0 : Int32) + (1 : Int32)))] [])) _
        refine XS.iloadN X178.here hx rfl (hb hby d1_62) rfl ?_
        show Steps p.tables e below (T178.setTop (mkF m 63 #[.val (.int P0), .val (.int P1), .val (.int P2), .val (.int P3), .val (.int P4), .val (.int ((((P0 &&& (1 : Int32)) + ((P0 >>> ((1 : Int32) &&& 31)) &&& (1 : Int32))) + ((P0 >>> ((2 : Int32) &&& 31)) &&& (1 : Int32))) + ((P0 >>> ((3 : Int32) &&& 31)) &&& (1 : Int32)))), .val (.ref b175), .val (.int ((0 : Int32) + (1 : Int32)))] [(.int P0)])) _
        refine XS.iconst X178.here hx rfl (hb hby d1_63) ?_
        show Steps p.tables e below (T178.setTop (mkF m 64 #[.val (.int P0), .val (.int P1), .val (.int P2), .val (.int P3), .val (.int P4), .val (.int ((((P0 &&& (1 : Int32)) + ((P0 >>> ((1 : Int32) &&& 31)) &&& (1 : Int32))) + ((P0 >>> ((2 : Int32) &&& 31)) &&& (1 : Int32))) + ((P0 >>> ((3 : Int32) &&& 31)) &&& (1 : Int32)))), .val (.ref b175), .val (.int ((0 : Int32) + (1 : Int32)))] [(.int (4 : Int32)), (.int P0)])) _
        refine XS.iand X178.here hx rfl (hb hby d1_64) rfl ?_
        show Steps p.tables e below (T178.setTop (mkF m 65 #[.val (.int P0), .val (.int P1), .val (.int P2), .val (.int P3), .val (.int P4), .val (.int ((((P0 &&& (1 : Int32)) + ((P0 >>> ((1 : Int32) &&& 31)) &&& (1 : Int32))) + ((P0 >>> ((2 : Int32) &&& 31)) &&& (1 : Int32))) + ((P0 >>> ((3 : Int32) &&& 31)) &&& (1 : Int32)))), .val (.ref b175), .val (.int ((0 : Int32) + (1 : Int32)))] [(.int (P0 &&& (4 : Int32)))])) _
        refine XS.ifYes X178.here hx rfl (pc0 := 65) (pc' := 77) rfl (hb hby d1_65) rfl ((if0 _ _).trans (teq (show (P0 &&& (4 : Int32)) = (0 : Int32) from (by first | decide | (rw [hk]; decide)))).1) (by decide) (by decide) ?_
        show Steps p.tables e below (T178.setTop (mkF m 77 #[.val (.int P0), .val (.int P1), .val (.int P2), .val (.int P3), .val (.int P4), .val (.int ((((P0 &&& (1 : Int32)) + ((P0 >>> ((1 : Int32) &&& 31)) &&& (1 : Int32))) + ((P0 >>> ((2 : Int32) &&& 31)) &&& (1 : Int32))) + ((P0 >>> ((3 : Int32) &&& 31)) &&& (1 : Int32)))), .val (.ref b175), .val (.int ((0 : Int32) + (1 : Int32)))] [])) _
        refine XS.iloadN X178.here hx rfl (hb hby d1_77) rfl ?_
        show Steps p.tables e below (T178.setTop (mkF m 78 #[.val (.int P0), .val (.int P1), .val (.int P2), .val (.int P3), .val (.int P4), .val (.int ((((P0 &&& (1 : Int32)) + ((P0 >>> ((1 : Int32) &&& 31)) &&& (1 : Int32))) + ((P0 >>> ((2 : Int32) &&& 31)) &&& (1 : Int32))) + ((P0 >>> ((3 : Int32) &&& 31)) &&& (1 : Int32)))), .val (.ref b175), .val (.int ((0 : Int32) + (1 : Int32)))] [(.int P0)])) _
        refine XS.bipush X178.here hx rfl (hb hby d1_78) ?_
        show Steps p.tables e below (T178.setTop (mkF m 80 #[.val (.int P0), .val (.int P1), .val (.int P2), .val (.int P3), .val (.int P4), .val (.int ((((P0 &&& (1 : Int32)) + ((P0 >>> ((1 : Int32) &&& 31)) &&& (1 : Int32))) + ((P0 >>> ((2 : Int32) &&& 31)) &&& (1 : Int32))) + ((P0 >>> ((3 : Int32) &&& 31)) &&& (1 : Int32)))), .val (.ref b175), .val (.int ((0 : Int32) + (1 : Int32)))] [(.int (8 : Int32)), (.int P0)])) _
        refine XS.iand X178.here hx rfl (hb hby d1_80) rfl ?_
        show Steps p.tables e below (T178.setTop (mkF m 81 #[.val (.int P0), .val (.int P1), .val (.int P2), .val (.int P3), .val (.int P4), .val (.int ((((P0 &&& (1 : Int32)) + ((P0 >>> ((1 : Int32) &&& 31)) &&& (1 : Int32))) + ((P0 >>> ((2 : Int32) &&& 31)) &&& (1 : Int32))) + ((P0 >>> ((3 : Int32) &&& 31)) &&& (1 : Int32)))), .val (.ref b175), .val (.int ((0 : Int32) + (1 : Int32)))] [(.int (P0 &&& (8 : Int32)))])) _
        refine XS.ifNo X178.here hx rfl (hb hby d1_81) rfl ((if0 _ _).trans (feq (show ¬ ((P0 &&& (8 : Int32)) = (0 : Int32)) from (by first | decide | (rw [hk]; decide)))).1) ?_
        show Steps p.tables e below (T178.setTop (mkF m 84 #[.val (.int P0), .val (.int P1), .val (.int P2), .val (.int P3), .val (.int P4), .val (.int ((((P0 &&& (1 : Int32)) + ((P0 >>> ((1 : Int32) &&& 31)) &&& (1 : Int32))) + ((P0 >>> ((2 : Int32) &&& 31)) &&& (1 : Int32))) + ((P0 >>> ((3 : Int32) &&& 31)) &&& (1 : Int32)))), .val (.ref b175), .val (.int ((0 : Int32) + (1 : Int32)))] [])) _
        refine XS.aload X178.here hx rfl (hb hby d1_84) rfl rfl ?_
        show Steps p.tables e below (T178.setTop (mkF m 86 #[.val (.int P0), .val (.int P1), .val (.int P2), .val (.int P3), .val (.int P4), .val (.int ((((P0 &&& (1 : Int32)) + ((P0 >>> ((1 : Int32) &&& 31)) &&& (1 : Int32))) + ((P0 >>> ((2 : Int32) &&& 31)) &&& (1 : Int32))) + ((P0 >>> ((3 : Int32) &&& 31)) &&& (1 : Int32)))), .val (.ref b175), .val (.int ((0 : Int32) + (1 : Int32)))] [(.ref b175)])) _
        refine XS.iload X178.here hx rfl (hb hby d1_86) rfl ?_
        show Steps p.tables e below (T178.setTop (mkF m 88 #[.val (.int P0), .val (.int P1), .val (.int P2), .val (.int P3), .val (.int P4), .val (.int ((((P0 &&& (1 : Int32)) + ((P0 >>> ((1 : Int32) &&& 31)) &&& (1 : Int32))) + ((P0 >>> ((2 : Int32) &&& 31)) &&& (1 : Int32))) + ((P0 >>> ((3 : Int32) &&& 31)) &&& (1 : Int32)))), .val (.ref b175), .val (.int ((0 : Int32) + (1 : Int32)))] [(.int ((0 : Int32) + (1 : Int32))), (.ref b175)])) _
        refine XS.iload X178.here hx rfl (hb hby d1_88) rfl ?_
        show Steps p.tables e below (T178.setTop (mkF m 90 #[.val (.int P0), .val (.int P1), .val (.int P2), .val (.int P3), .val (.int P4), .val (.int ((((P0 &&& (1 : Int32)) + ((P0 >>> ((1 : Int32) &&& 31)) &&& (1 : Int32))) + ((P0 >>> ((2 : Int32) &&& 31)) &&& (1 : Int32))) + ((P0 >>> ((3 : Int32) &&& 31)) &&& (1 : Int32)))), .val (.ref b175), .val (.int ((0 : Int32) + (1 : Int32)))] [(.int P4), (.int ((0 : Int32) + (1 : Int32))), (.ref b175)])) _
        refine st181 _ ?_
        show Steps p.tables e below (T181.setTop (mkF m 91 #[.val (.int P0), .val (.int P1), .val (.int P2), .val (.int P3), .val (.int P4), .val (.int ((((P0 &&& (1 : Int32)) + ((P0 >>> ((1 : Int32) &&& 31)) &&& (1 : Int32))) + ((P0 >>> ((2 : Int32) &&& 31)) &&& (1 : Int32))) + ((P0 >>> ((3 : Int32) &&& 31)) &&& (1 : Int32)))), .val (.ref b175), .val (.int ((0 : Int32) + (1 : Int32)))] [])) _
        refine XS.iinc X181.here hx rfl (hb hby d1_91) rfl (l' := #[.val (.int P0), .val (.int P1), .val (.int P2), .val (.int P3), .val (.int P4), .val (.int ((((P0 &&& (1 : Int32)) + ((P0 >>> ((1 : Int32) &&& 31)) &&& (1 : Int32))) + ((P0 >>> ((2 : Int32) &&& 31)) &&& (1 : Int32))) + ((P0 >>> ((3 : Int32) &&& 31)) &&& (1 : Int32)))), .val (.ref b175), .val (.int (((0 : Int32) + (1 : Int32)) + (1 : Int32)))]) rfl ?_
        show Steps p.tables e below (T181.setTop (mkF m 94 #[.val (.int P0), .val (.int P1), .val (.int P2), .val (.int P3), .val (.int P4), .val (.int ((((P0 &&& (1 : Int32)) + ((P0 >>> ((1 : Int32) &&& 31)) &&& (1 : Int32))) + ((P0 >>> ((2 : Int32) &&& 31)) &&& (1 : Int32))) + ((P0 >>> ((3 : Int32) &&& 31)) &&& (1 : Int32)))), .val (.ref b175), .val (.int (((0 : Int32) + (1 : Int32)) + (1 : Int32)))] [])) _
        refine XS.aload X181.here hx rfl (hb hby d1_94) rfl rfl ?_
        exact kt)
    have hsel : (own_sel P0 P1 P2 P3 P4).map Value.int = [(.int P1), (.int P4)] := by rw [hk, own_sel9]; rfl
    have c184 : Exa Z h181 b175 "[I" := ((EX175.wr W178).wr W181)
    obtain ⟨fs, hr, hrun, hended, hW, hsame⟩ := X181.leave (v := some (.ref b175)) (fun h => by rw [Bd.returns] at h; cases h)
    refine ⟨_, _, pre183 _ ?_, hrun, hended, _, _, rfl, ?_, ⟨_, rfl⟩, hW, hsame.mono (by decide) (by decide)⟩
    · show Steps p.tables e below (T181.setTop (mkF m 96 #[.val (.int P0), .val (.int P1), .val (.int P2), .val (.int P3), .val (.int P4), .val (.int ((((P0 &&& (1 : Int32)) + ((P0 >>> ((1 : Int32) &&& 31)) &&& (1 : Int32))) + ((P0 >>> ((2 : Int32) &&& 31)) &&& (1 : Int32))) + ((P0 >>> ((3 : Int32) &&& 31)) &&& (1 : Int32)))), .val (.ref b175), .val (.int (((0 : Int32) + (1 : Int32)) + (1 : Int32)))] [(.ref b175)])) _
      exact retOut X181 hx Bd.returns rfl (Or.inr (Or.inr (Or.inr (Or.inr ⟨rfl, rfl, rfl⟩)))) (hb hby d1_96) hr
    · show Q1 Z P0 P1 P2 P3 P4 h0 n0 _ T181.heap _
      rw [e181]
      exact ⟨b175, k175, rfl, N181, K_182, sz_b175, c184, (by rw [hsel]; exact V181)⟩
  · obtain ⟨T185, h185, k185, X185, e185, E185, A185, EX185, st185⟩ := newPE X0 hx hZ (hw _ (List.mem_of_getElem? (i := 8) rfl)) e0 (g := (mkF m 25 #[.val (.int P0), .val (.int P1), .val (.int P2), .val (.int P3), .val (.int P4), .val (.int ((((P0 &&& (1 : Int32)) + ((P0 >>> ((1 : Int32) &&& 31)) &&& (1 : Int32))) + ((P0 >>> ((2 : Int32) &&& 31)) &&& (1 : Int32))) + ((P0 >>> ((3 : Int32) &&& 31)) &&& (1 : Int32)))), .unset, .unset] [(.int ((((P0 &&& (1 : Int32)) + ((P0 >>> ((1 : Int32) &&& 31)) &&& (1 : Int32))) + ((P0 >>> ((2 : Int32) &&& 31)) &&& (1 : Int32))) + ((P0 >>> ((3 : Int32) &&& 31)) &&& (1 : Int32))))])) rfl (hb hby d1_25) rfl (by first | decide | (rw [hk]; decide)) (cap := 4) (by first | decide | (rw [hk]; decide)) (by decide) (by decide) (by decide) (ad := "[I") (by decide)
    obtain ⟨b185, q185⟩ : ∃ z, z = h0.size := ⟨_, rfl⟩
    rw [← q185] at A185 EX185 st185
    have g_b185 : n0 ≤ b185 := Nat.le_trans Z0 (Nat.le_of_eq q185.symm)
    have sz_b185 : h0.size ≤ b185 := Nat.le_trans K_0.1 (Nat.le_of_eq q185.symm)
    have Z186 : n0 ≤ h185.size := Nat.le_trans Z0 E185.1
    have K_186 : Keep h0 h185 [] := K_0.ext E185
    have V185 : Arv Z h185 b185 k185 .int ((((P0 &&& (1 : Int32)) + ((P0 >>> ((1 : Int32) &&& 31)) &&& (1 : Int32))) + ((P0 >>> ((2 : Int32) &&& 31)) &&& (1 : Int32))) + ((P0 >>> ((3 : Int32) &&& 31)) &&& (1 : Int32))) [(.int (0 : Int32)), (.int (0 : Int32))] (.int (0 : Int32)) := (Arv.new A185 (by first | decide | (rw [hk]; decide))).pad (pad_rep [] (.int (0 : Int32)) 2)
    obtain ⟨cl187, Ar187, q187, S187, N_187, H187, G187⟩ := id V185
    have hin187 : ¬ ((0 : Int32) < 0 ∨ cl187.slots.size ≤ ((0 : Int32)).toNatClampNeg) := inb_of S187 ⟨by first | decide | (rw [hk]; decide), by first | decide | (rw [hk]; decide)⟩
    obtain ⟨T188, h188, X188, e188, W188, st188⟩ := stI X185 hx hZ e185 Ar187 (j := (0 : Int32)) hin187 (g := (mkF m 58 #[.val (.int P0), .val (.int P1), .val (.int P2), .val (.int P3), .val (.int P4), .val (.int ((((P0 &&& (1 : Int32)) + ((P0 >>> ((1 : Int32) &&& 31)) &&& (1 : Int32))) + ((P0 >>> ((2 : Int32) &&& 31)) &&& (1 : Int32))) + ((P0 >>> ((3 : Int32) &&& 31)) &&& (1 : Int32)))), .val (.ref b185), .val (.int (0 : Int32))] [(.int P2), (.int (0 : Int32)), (.ref b185)])) rfl rfl (hb hby d1_58)
    have Z189 : n0 ≤ h188.size := Nat.le_trans Z186 (Nat.le_of_eq W188.size.symm)
    have K_189 : Keep h0 h188 [] := K_186.wr W188 (Or.inr sz_b185)
    have V188 : Arv Z h188 b185 k185 .int ((((P0 &&& (1 : Int32)) + ((P0 >>> ((1 : Int32) &&& 31)) &&& (1 : Int32))) + ((P0 >>> ((2 : Int32) &&& 31)) &&& (1 : Int32))) + ((P0 >>> ((3 : Int32) &&& 31)) &&& (1 : Int32))) [(.int P2), (.int (0 : Int32))] (.int (0 : Int32)) := Arv.set Ar187 q187 S187 N_187 H187 G187 rfl W188 0 rfl (Nat.le_of_ble_eq_true rfl)
    have N188 := Fr.snoc X188 N0 g_b185
    obtain ⟨cl190, Ar190, q190, S190, N_190, H190, G190⟩ := id V188
    have hin190 : ¬ (((0 : Int32) + (1 : Int32)) < 0 ∨ cl190.slots.size ≤ (((0 : Int32) + (1 : Int32))).toNatClampNeg) := inb_of S190 ⟨by first | decide | (rw [hk]; decide), by first | decide | (rw [hk]; decide)⟩
    obtain ⟨T191, h191, X191, e191, W191, st191⟩ := stI X188 hx hZ e188 Ar190 (j := ((0 : Int32) + (1 : Int32))) hin190 (g := (mkF m 90 #[.val (.int P0), .val (.int P1), .val (.int P2), .val (.int P3), .val (.int P4), .val (.int ((((P0 &&& (1 : Int32)) + ((P0 >>> ((1 : Int32) &&& 31)) &&& (1 : Int32))) + ((P0 >>> ((2 : Int32) &&& 31)) &&& (1 : Int32))) + ((P0 >>> ((3 : Int32) &&& 31)) &&& (1 : Int32)))), .val (.ref b185), .val (.int ((0 : Int32) + (1 : Int32)))] [(.int P4), (.int ((0 : Int32) + (1 : Int32))), (.ref b185)])) rfl rfl (hb hby d1_90)
    have Z192 : n0 ≤ h191.size := Nat.le_trans Z189 (Nat.le_of_eq W191.size.symm)
    have K_192 : Keep h0 h191 [] := K_189.wr W191 (Or.inr sz_b185)
    have V191 : Arv Z h191 b185 k185 .int ((((P0 &&& (1 : Int32)) + ((P0 >>> ((1 : Int32) &&& 31)) &&& (1 : Int32))) + ((P0 >>> ((2 : Int32) &&& 31)) &&& (1 : Int32))) + ((P0 >>> ((3 : Int32) &&& 31)) &&& (1 : Int32))) [(.int P2), (.int P4)] (.int (0 : Int32)) := Arv.set Ar190 q190 S190 N_190 H190 G190 rfl W191 1 (by decide) (Nat.le_of_ble_eq_true rfl)
    have N191 := Fr.snoc X191 N188 g_b185
    have pre193 : ∀ t, Steps p.tables e below (T191.setTop (mkF m 96 #[.val (.int P0), .val (.int P1), .val (.int P2), .val (.int P3), .val (.int P4), .val (.int ((((P0 &&& (1 : Int32)) + ((P0 >>> ((1 : Int32) &&& 31)) &&& (1 : Int32))) + ((P0 >>> ((2 : Int32) &&& 31)) &&& (1 : Int32))) + ((P0 >>> ((3 : Int32) &&& 31)) &&& (1 : Int32)))), .val (.ref b185), .val (.int (((0 : Int32) + (1 : Int32)) + (1 : Int32)))] [(.ref b185)])) t → Steps p.tables e below (s₁.setTop (entryFrame m #[(.int P0), (.int P1), (.int P2), (.int P3), (.int P4)] 8)) t := fun t kt => pre0 t (by
        show Steps p.tables e below (s₁.setTop (mkF m 0 #[.val (.int P0), .val (.int P1), .val (.int P2), .val (.int P3), .val (.int P4), .unset, .unset, .unset] [])) _
        refine XS.iloadN X0.here hx rfl (hb hby d1_0) rfl ?_
        show Steps p.tables e below (s₁.setTop (mkF m 1 #[.val (.int P0), .val (.int P1), .val (.int P2), .val (.int P3), .val (.int P4), .unset, .unset, .unset] [(.int P0)])) _
        refine XS.iconst X0.here hx rfl (hb hby d1_1) ?_
        show Steps p.tables e below (s₁.setTop (mkF m 2 #[.val (.int P0), .val (.int P1), .val (.int P2), .val (.int P3), .val (.int P4), .unset, .unset, .unset] [(.int (1 : Int32)), (.int P0)])) _
        refine XS.iand X0.here hx rfl (hb hby d1_2) rfl ?_
        show Steps p.tables e below (s₁.setTop (mkF m 3 #[.val (.int P0), .val (.int P1), .val (.int P2), .val (.int P3), .val (.int P4), .unset, .unset, .unset] [(.int (P0 &&& (1 : Int32)))])) _
        refine XS.iloadN X0.here hx rfl (hb hby d1_3) rfl ?_
        show Steps p.tables e below (s₁.setTop (mkF m 4 #[.val (.int P0), .val (.int P1), .val (.int P2), .val (.int P3), .val (.int P4), .unset, .unset, .unset] [(.int P0), (.int (P0 &&& (1 : Int32)))])) _
        refine XS.iconst X0.here hx rfl (hb hby d1_4) ?_
        show Steps p.tables e below (s₁.setTop (mkF m 5 #[.val (.int P0), .val (.int P1), .val (.int P2), .val (.int P3), .val (.int P4), .unset, .unset, .unset] [(.int (1 : Int32)), (.int P0), (.int (P0 &&& (1 : Int32)))])) _
        refine XS.ishr X0.here hx rfl (hb hby d1_5) rfl ?_
        show Steps p.tables e below (s₁.setTop (mkF m 6 #[.val (.int P0), .val (.int P1), .val (.int P2), .val (.int P3), .val (.int P4), .unset, .unset, .unset] [(.int (P0 >>> ((1 : Int32) &&& 31))), (.int (P0 &&& (1 : Int32)))])) _
        refine XS.iconst X0.here hx rfl (hb hby d1_6) ?_
        show Steps p.tables e below (s₁.setTop (mkF m 7 #[.val (.int P0), .val (.int P1), .val (.int P2), .val (.int P3), .val (.int P4), .unset, .unset, .unset] [(.int (1 : Int32)), (.int (P0 >>> ((1 : Int32) &&& 31))), (.int (P0 &&& (1 : Int32)))])) _
        refine XS.iand X0.here hx rfl (hb hby d1_7) rfl ?_
        show Steps p.tables e below (s₁.setTop (mkF m 8 #[.val (.int P0), .val (.int P1), .val (.int P2), .val (.int P3), .val (.int P4), .unset, .unset, .unset] [(.int ((P0 >>> ((1 : Int32) &&& 31)) &&& (1 : Int32))), (.int (P0 &&& (1 : Int32)))])) _
        refine XS.iadd X0.here hx rfl (hb hby d1_8) rfl ?_
        show Steps p.tables e below (s₁.setTop (mkF m 9 #[.val (.int P0), .val (.int P1), .val (.int P2), .val (.int P3), .val (.int P4), .unset, .unset, .unset] [(.int ((P0 &&& (1 : Int32)) + ((P0 >>> ((1 : Int32) &&& 31)) &&& (1 : Int32))))])) _
        refine XS.iloadN X0.here hx rfl (hb hby d1_9) rfl ?_
        show Steps p.tables e below (s₁.setTop (mkF m 10 #[.val (.int P0), .val (.int P1), .val (.int P2), .val (.int P3), .val (.int P4), .unset, .unset, .unset] [(.int P0), (.int ((P0 &&& (1 : Int32)) + ((P0 >>> ((1 : Int32) &&& 31)) &&& (1 : Int32))))])) _
        refine XS.iconst X0.here hx rfl (hb hby d1_10) ?_
        show Steps p.tables e below (s₁.setTop (mkF m 11 #[.val (.int P0), .val (.int P1), .val (.int P2), .val (.int P3), .val (.int P4), .unset, .unset, .unset] [(.int (2 : Int32)), (.int P0), (.int ((P0 &&& (1 : Int32)) + ((P0 >>> ((1 : Int32) &&& 31)) &&& (1 : Int32))))])) _
        refine XS.ishr X0.here hx rfl (hb hby d1_11) rfl ?_
        show Steps p.tables e below (s₁.setTop (mkF m 12 #[.val (.int P0), .val (.int P1), .val (.int P2), .val (.int P3), .val (.int P4), .unset, .unset, .unset] [(.int (P0 >>> ((2 : Int32) &&& 31))), (.int ((P0 &&& (1 : Int32)) + ((P0 >>> ((1 : Int32) &&& 31)) &&& (1 : Int32))))])) _
        refine XS.iconst X0.here hx rfl (hb hby d1_12) ?_
        show Steps p.tables e below (s₁.setTop (mkF m 13 #[.val (.int P0), .val (.int P1), .val (.int P2), .val (.int P3), .val (.int P4), .unset, .unset, .unset] [(.int (1 : Int32)), (.int (P0 >>> ((2 : Int32) &&& 31))), (.int ((P0 &&& (1 : Int32)) + ((P0 >>> ((1 : Int32) &&& 31)) &&& (1 : Int32))))])) _
        refine XS.iand X0.here hx rfl (hb hby d1_13) rfl ?_
        show Steps p.tables e below (s₁.setTop (mkF m 14 #[.val (.int P0), .val (.int P1), .val (.int P2), .val (.int P3), .val (.int P4), .unset, .unset, .unset] [(.int ((P0 >>> ((2 : Int32) &&& 31)) &&& (1 : Int32))), (.int ((P0 &&& (1 : Int32)) + ((P0 >>> ((1 : Int32) &&& 31)) &&& (1 : Int32))))])) _
        refine XS.iadd X0.here hx rfl (hb hby d1_14) rfl ?_
        show Steps p.tables e below (s₁.setTop (mkF m 15 #[.val (.int P0), .val (.int P1), .val (.int P2), .val (.int P3), .val (.int P4), .unset, .unset, .unset] [(.int (((P0 &&& (1 : Int32)) + ((P0 >>> ((1 : Int32) &&& 31)) &&& (1 : Int32))) + ((P0 >>> ((2 : Int32) &&& 31)) &&& (1 : Int32))))])) _
        refine XS.iloadN X0.here hx rfl (hb hby d1_15) rfl ?_
        show Steps p.tables e below (s₁.setTop (mkF m 16 #[.val (.int P0), .val (.int P1), .val (.int P2), .val (.int P3), .val (.int P4), .unset, .unset, .unset] [(.int P0), (.int (((P0 &&& (1 : Int32)) + ((P0 >>> ((1 : Int32) &&& 31)) &&& (1 : Int32))) + ((P0 >>> ((2 : Int32) &&& 31)) &&& (1 : Int32))))])) _
        refine XS.iconst X0.here hx rfl (hb hby d1_16) ?_
        show Steps p.tables e below (s₁.setTop (mkF m 17 #[.val (.int P0), .val (.int P1), .val (.int P2), .val (.int P3), .val (.int P4), .unset, .unset, .unset] [(.int (3 : Int32)), (.int P0), (.int (((P0 &&& (1 : Int32)) + ((P0 >>> ((1 : Int32) &&& 31)) &&& (1 : Int32))) + ((P0 >>> ((2 : Int32) &&& 31)) &&& (1 : Int32))))])) _
        refine XS.ishr X0.here hx rfl (hb hby d1_17) rfl ?_
        show Steps p.tables e below (s₁.setTop (mkF m 18 #[.val (.int P0), .val (.int P1), .val (.int P2), .val (.int P3), .val (.int P4), .unset, .unset, .unset] [(.int (P0 >>> ((3 : Int32) &&& 31))), (.int (((P0 &&& (1 : Int32)) + ((P0 >>> ((1 : Int32) &&& 31)) &&& (1 : Int32))) + ((P0 >>> ((2 : Int32) &&& 31)) &&& (1 : Int32))))])) _
        refine XS.iconst X0.here hx rfl (hb hby d1_18) ?_
        show Steps p.tables e below (s₁.setTop (mkF m 19 #[.val (.int P0), .val (.int P1), .val (.int P2), .val (.int P3), .val (.int P4), .unset, .unset, .unset] [(.int (1 : Int32)), (.int (P0 >>> ((3 : Int32) &&& 31))), (.int (((P0 &&& (1 : Int32)) + ((P0 >>> ((1 : Int32) &&& 31)) &&& (1 : Int32))) + ((P0 >>> ((2 : Int32) &&& 31)) &&& (1 : Int32))))])) _
        refine XS.iand X0.here hx rfl (hb hby d1_19) rfl ?_
        show Steps p.tables e below (s₁.setTop (mkF m 20 #[.val (.int P0), .val (.int P1), .val (.int P2), .val (.int P3), .val (.int P4), .unset, .unset, .unset] [(.int ((P0 >>> ((3 : Int32) &&& 31)) &&& (1 : Int32))), (.int (((P0 &&& (1 : Int32)) + ((P0 >>> ((1 : Int32) &&& 31)) &&& (1 : Int32))) + ((P0 >>> ((2 : Int32) &&& 31)) &&& (1 : Int32))))])) _
        refine XS.iadd X0.here hx rfl (hb hby d1_20) rfl ?_
        show Steps p.tables e below (s₁.setTop (mkF m 21 #[.val (.int P0), .val (.int P1), .val (.int P2), .val (.int P3), .val (.int P4), .unset, .unset, .unset] [(.int ((((P0 &&& (1 : Int32)) + ((P0 >>> ((1 : Int32) &&& 31)) &&& (1 : Int32))) + ((P0 >>> ((2 : Int32) &&& 31)) &&& (1 : Int32))) + ((P0 >>> ((3 : Int32) &&& 31)) &&& (1 : Int32))))])) _
        refine XS.istore X0.here hx rfl (hb hby d1_21) rfl (l' := #[.val (.int P0), .val (.int P1), .val (.int P2), .val (.int P3), .val (.int P4), .val (.int ((((P0 &&& (1 : Int32)) + ((P0 >>> ((1 : Int32) &&& 31)) &&& (1 : Int32))) + ((P0 >>> ((2 : Int32) &&& 31)) &&& (1 : Int32))) + ((P0 >>> ((3 : Int32) &&& 31)) &&& (1 : Int32)))), .unset, .unset]) rfl ?_
        show Steps p.tables e below (s₁.setTop (mkF m 23 #[.val (.int P0), .val (.int P1), .val (.int P2), .val (.int P3), .val (.int P4), .val (.int ((((P0 &&& (1 : Int32)) + ((P0 >>> ((1 : Int32) &&& 31)) &&& (1 : Int32))) + ((P0 >>> ((2 : Int32) &&& 31)) &&& (1 : Int32))) + ((P0 >>> ((3 : Int32) &&& 31)) &&& (1 : Int32)))), .unset, .unset] [])) _
        refine XS.iload X0.here hx rfl (hb hby d1_23) rfl ?_
        show Steps p.tables e below (s₁.setTop (mkF m 25 #[.val (.int P0), .val (.int P1), .val (.int P2), .val (.int P3), .val (.int P4), .val (.int ((((P0 &&& (1 : Int32)) + ((P0 >>> ((1 : Int32) &&& 31)) &&& (1 : Int32))) + ((P0 >>> ((2 : Int32) &&& 31)) &&& (1 : Int32))) + ((P0 >>> ((3 : Int32) &&& 31)) &&& (1 : Int32)))), .unset, .unset] [(.int ((((P0 &&& (1 : Int32)) + ((P0 >>> ((1 : Int32) &&& 31)) &&& (1 : Int32))) + ((P0 >>> ((2 : Int32) &&& 31)) &&& (1 : Int32))) + ((P0 >>> ((3 : Int32) &&& 31)) &&& (1 : Int32))))])) _
        refine st185 _ ?_
        show Steps p.tables e below (T185.setTop (mkF m 27 #[.val (.int P0), .val (.int P1), .val (.int P2), .val (.int P3), .val (.int P4), .val (.int ((((P0 &&& (1 : Int32)) + ((P0 >>> ((1 : Int32) &&& 31)) &&& (1 : Int32))) + ((P0 >>> ((2 : Int32) &&& 31)) &&& (1 : Int32))) + ((P0 >>> ((3 : Int32) &&& 31)) &&& (1 : Int32)))), .unset, .unset] [(.ref b185)])) _
        refine XS.astore X185.here hx rfl (hb hby d1_27) rfl rfl (l' := #[.val (.int P0), .val (.int P1), .val (.int P2), .val (.int P3), .val (.int P4), .val (.int ((((P0 &&& (1 : Int32)) + ((P0 >>> ((1 : Int32) &&& 31)) &&& (1 : Int32))) + ((P0 >>> ((2 : Int32) &&& 31)) &&& (1 : Int32))) + ((P0 >>> ((3 : Int32) &&& 31)) &&& (1 : Int32)))), .val (.ref b185), .unset]) rfl ?_
        show Steps p.tables e below (T185.setTop (mkF m 29 #[.val (.int P0), .val (.int P1), .val (.int P2), .val (.int P3), .val (.int P4), .val (.int ((((P0 &&& (1 : Int32)) + ((P0 >>> ((1 : Int32) &&& 31)) &&& (1 : Int32))) + ((P0 >>> ((2 : Int32) &&& 31)) &&& (1 : Int32))) + ((P0 >>> ((3 : Int32) &&& 31)) &&& (1 : Int32)))), .val (.ref b185), .unset] [])) _
        refine XS.iconst X185.here hx rfl (hb hby d1_29) ?_
        show Steps p.tables e below (T185.setTop (mkF m 30 #[.val (.int P0), .val (.int P1), .val (.int P2), .val (.int P3), .val (.int P4), .val (.int ((((P0 &&& (1 : Int32)) + ((P0 >>> ((1 : Int32) &&& 31)) &&& (1 : Int32))) + ((P0 >>> ((2 : Int32) &&& 31)) &&& (1 : Int32))) + ((P0 >>> ((3 : Int32) &&& 31)) &&& (1 : Int32)))), .val (.ref b185), .unset] [(.int (0 : Int32))])) _
        refine XS.istore X185.here hx rfl (hb hby d1_30) rfl (l' := #[.val (.int P0), .val (.int P1), .val (.int P2), .val (.int P3), .val (.int P4), .val (.int ((((P0 &&& (1 : Int32)) + ((P0 >>> ((1 : Int32) &&& 31)) &&& (1 : Int32))) + ((P0 >>> ((2 : Int32) &&& 31)) &&& (1 : Int32))) + ((P0 >>> ((3 : Int32) &&& 31)) &&& (1 : Int32)))), .val (.ref b185), .val (.int (0 : Int32))]) rfl ?_
        show Steps p.tables e below (T185.setTop (mkF m 32 #[.val (.int P0), .val (.int P1), .val (.int P2), .val (.int P3), .val (.int P4), .val (.int ((((P0 &&& (1 : Int32)) + ((P0 >>> ((1 : Int32) &&& 31)) &&& (1 : Int32))) + ((P0 >>> ((2 : Int32) &&& 31)) &&& (1 : Int32))) + ((P0 >>> ((3 : Int32) &&& 31)) &&& (1 : Int32)))), .val (.ref b185), .val (.int (0 : Int32))] [])) _
        refine XS.iloadN X185.here hx rfl (hb hby d1_32) rfl ?_
        show Steps p.tables e below (T185.setTop (mkF m 33 #[.val (.int P0), .val (.int P1), .val (.int P2), .val (.int P3), .val (.int P4), .val (.int ((((P0 &&& (1 : Int32)) + ((P0 >>> ((1 : Int32) &&& 31)) &&& (1 : Int32))) + ((P0 >>> ((2 : Int32) &&& 31)) &&& (1 : Int32))) + ((P0 >>> ((3 : Int32) &&& 31)) &&& (1 : Int32)))), .val (.ref b185), .val (.int (0 : Int32))] [(.int P0)])) _
        refine XS.iconst X185.here hx rfl (hb hby d1_33) ?_
        show Steps p.tables e below (T185.setTop (mkF m 34 #[.val (.int P0), .val (.int P1), .val (.int P2), .val (.int P3), .val (.int P4), .val (.int ((((P0 &&& (1 : Int32)) + ((P0 >>> ((1 : Int32) &&& 31)) &&& (1 : Int32))) + ((P0 >>> ((2 : Int32) &&& 31)) &&& (1 : Int32))) + ((P0 >>> ((3 : Int32) &&& 31)) &&& (1 : Int32)))), .val (.ref b185), .val (.int (0 : Int32))] [(.int (1 : Int32)), (.int P0)])) _
        refine XS.iand X185.here hx rfl (hb hby d1_34) rfl ?_
        show Steps p.tables e below (T185.setTop (mkF m 35 #[.val (.int P0), .val (.int P1), .val (.int P2), .val (.int P3), .val (.int P4), .val (.int ((((P0 &&& (1 : Int32)) + ((P0 >>> ((1 : Int32) &&& 31)) &&& (1 : Int32))) + ((P0 >>> ((2 : Int32) &&& 31)) &&& (1 : Int32))) + ((P0 >>> ((3 : Int32) &&& 31)) &&& (1 : Int32)))), .val (.ref b185), .val (.int (0 : Int32))] [(.int (P0 &&& (1 : Int32)))])) _
        refine XS.ifYes X185.here hx rfl (pc0 := 35) (pc' := 47) rfl (hb hby d1_35) rfl ((if0 _ _).trans (teq (show (P0 &&& (1 : Int32)) = (0 : Int32) from (by first | decide | (rw [hk]; decide)))).1) (by decide) (by decide) ?_
        show Steps p.tables e below (T185.setTop (mkF m 47 #[.val (.int P0), .val (.int P1), .val (.int P2), .val (.int P3), .val (.int P4), .val (.int ((((P0 &&& (1 : Int32)) + ((P0 >>> ((1 : Int32) &&& 31)) &&& (1 : Int32))) + ((P0 >>> ((2 : Int32) &&& 31)) &&& (1 : Int32))) + ((P0 >>> ((3 : Int32) &&& 31)) &&& (1 : Int32)))), .val (.ref b185), .val (.int (0 : Int32))] [])) _
        refine XS.iloadN X185.here hx rfl (hb hby d1_47) rfl ?_
        show Steps p.tables e below (T185.setTop (mkF m 48 #[.val (.int P0), .val (.int P1), .val (.int P2), .val (.int P3), .val (.int P4), .val (.int ((((P0 &&& (1 : Int32)) + ((P0 >>> ((1 : Int32) &&& 31)) &&& (1 : Int32))) + ((P0 >>> ((2 : Int32) &&& 31)) &&& (1 : Int32))) + ((P0 >>> ((3 : Int32) &&& 31)) &&& (1 : Int32)))), .val (.ref b185), .val (.int (0 : Int32))] [(.int P0)])) _
        refine XS.iconst X185.here hx rfl (hb hby d1_48) ?_
        show Steps p.tables e below (T185.setTop (mkF m 49 #[.val (.int P0), .val (.int P1), .val (.int P2), .val (.int P3), .val (.int P4), .val (.int ((((P0 &&& (1 : Int32)) + ((P0 >>> ((1 : Int32) &&& 31)) &&& (1 : Int32))) + ((P0 >>> ((2 : Int32) &&& 31)) &&& (1 : Int32))) + ((P0 >>> ((3 : Int32) &&& 31)) &&& (1 : Int32)))), .val (.ref b185), .val (.int (0 : Int32))] [(.int (2 : Int32)), (.int P0)])) _
        refine XS.iand X185.here hx rfl (hb hby d1_49) rfl ?_
        show Steps p.tables e below (T185.setTop (mkF m 50 #[.val (.int P0), .val (.int P1), .val (.int P2), .val (.int P3), .val (.int P4), .val (.int ((((P0 &&& (1 : Int32)) + ((P0 >>> ((1 : Int32) &&& 31)) &&& (1 : Int32))) + ((P0 >>> ((2 : Int32) &&& 31)) &&& (1 : Int32))) + ((P0 >>> ((3 : Int32) &&& 31)) &&& (1 : Int32)))), .val (.ref b185), .val (.int (0 : Int32))] [(.int (P0 &&& (2 : Int32)))])) _
        refine XS.ifNo X185.here hx rfl (hb hby d1_50) rfl ((if0 _ _).trans (feq (show ¬ ((P0 &&& (2 : Int32)) = (0 : Int32)) from (by first | decide | (rw [hk]; decide)))).1) ?_
        show Steps p.tables e below (T185.setTop (mkF m 53 #[.val (.int P0), .val (.int P1), .val (.int P2), .val (.int P3), .val (.int P4), .val (.int ((((P0 &&& (1 : Int32)) + ((P0 >>> ((1 : Int32) &&& 31)) &&& (1 : Int32))) + ((P0 >>> ((2 : Int32) &&& 31)) &&& (1 : Int32))) + ((P0 >>> ((3 : Int32) &&& 31)) &&& (1 : Int32)))), .val (.ref b185), .val (.int (0 : Int32))] [])) _
        refine XS.aload X185.here hx rfl (hb hby d1_53) rfl rfl ?_
        show Steps p.tables e below (T185.setTop (mkF m 55 #[.val (.int P0), .val (.int P1), .val (.int P2), .val (.int P3), .val (.int P4), .val (.int ((((P0 &&& (1 : Int32)) + ((P0 >>> ((1 : Int32) &&& 31)) &&& (1 : Int32))) + ((P0 >>> ((2 : Int32) &&& 31)) &&& (1 : Int32))) + ((P0 >>> ((3 : Int32) &&& 31)) &&& (1 : Int32)))), .val (.ref b185), .val (.int (0 : Int32))] [(.ref b185)])) _
        refine XS.iload X185.here hx rfl (hb hby d1_55) rfl ?_
        show Steps p.tables e below (T185.setTop (mkF m 57 #[.val (.int P0), .val (.int P1), .val (.int P2), .val (.int P3), .val (.int P4), .val (.int ((((P0 &&& (1 : Int32)) + ((P0 >>> ((1 : Int32) &&& 31)) &&& (1 : Int32))) + ((P0 >>> ((2 : Int32) &&& 31)) &&& (1 : Int32))) + ((P0 >>> ((3 : Int32) &&& 31)) &&& (1 : Int32)))), .val (.ref b185), .val (.int (0 : Int32))] [(.int (0 : Int32)), (.ref b185)])) _
        refine XS.iloadN X185.here hx rfl (hb hby d1_57) rfl ?_
        show Steps p.tables e below (T185.setTop (mkF m 58 #[.val (.int P0), .val (.int P1), .val (.int P2), .val (.int P3), .val (.int P4), .val (.int ((((P0 &&& (1 : Int32)) + ((P0 >>> ((1 : Int32) &&& 31)) &&& (1 : Int32))) + ((P0 >>> ((2 : Int32) &&& 31)) &&& (1 : Int32))) + ((P0 >>> ((3 : Int32) &&& 31)) &&& (1 : Int32)))), .val (.ref b185), .val (.int (0 : Int32))] [(.int P2), (.int (0 : Int32)), (.ref b185)])) _
        refine st188 _ ?_
        show Steps p.tables e below (T188.setTop (mkF m 59 #[.val (.int P0), .val (.int P1), .val (.int P2), .val (.int P3), .val (.int P4), .val (.int ((((P0 &&& (1 : Int32)) + ((P0 >>> ((1 : Int32) &&& 31)) &&& (1 : Int32))) + ((P0 >>> ((2 : Int32) &&& 31)) &&& (1 : Int32))) + ((P0 >>> ((3 : Int32) &&& 31)) &&& (1 : Int32)))), .val (.ref b185), .val (.int (0 : Int32))] [])) _
        refine XS.iinc X188.here hx rfl (hb hby d1_59) rfl (l' := #[.val (.int P0), .val (.int P1), .val (.int P2), .val (.int P3), .val (.int P4), .val (.int ((((P0 &&& (1 : Int32)) + ((P0 >>> ((1 : Int32) &&& 31)) &&& (1 : Int32))) + ((P0 >>> ((2 : Int32) &&& 31)) &&& (1 : Int32))) + ((P0 >>> ((3 : Int32) &&& 31)) &&& (1 : Int32)))), .val (.ref b185), .val (.int ((0 : Int32) + (1 : Int32)))]) rfl ?_
        show Steps p.tables e below (T188.setTop (mkF m 62 #[.val (.int P0), .val (.int P1), .val (.int P2), .val (.int P3), .val (.int P4), .val (.int ((((P0 &&& (1 : Int32)) + ((P0 >>> ((1 : Int32) &&& 31)) &&& (1 : Int32))) + ((P0 >>> ((2 : Int32) &&& 31)) &&& (1 : Int32))) + ((P0 >>> ((3 : Int32) &&& 31)) &&& (1 : Int32)))), .val (.ref b185), .val (.int ((0 : Int32) + (1 : Int32)))] [])) _
        refine XS.iloadN X188.here hx rfl (hb hby d1_62) rfl ?_
        show Steps p.tables e below (T188.setTop (mkF m 63 #[.val (.int P0), .val (.int P1), .val (.int P2), .val (.int P3), .val (.int P4), .val (.int ((((P0 &&& (1 : Int32)) + ((P0 >>> ((1 : Int32) &&& 31)) &&& (1 : Int32))) + ((P0 >>> ((2 : Int32) &&& 31)) &&& (1 : Int32))) + ((P0 >>> ((3 : Int32) &&& 31)) &&& (1 : Int32)))), .val (.ref b185), .val (.int ((0 : Int32) + (1 : Int32)))] [(.int P0)])) _
        refine XS.iconst X188.here hx rfl (hb hby d1_63) ?_
        show Steps p.tables e below (T188.setTop (mkF m 64 #[.val (.int P0), .val (.int P1), .val (.int P2), .val (.int P3), .val (.int P4), .val (.int ((((P0 &&& (1 : Int32)) + ((P0 >>> ((1 : Int32) &&& 31)) &&& (1 : Int32))) + ((P0 >>> ((2 : Int32) &&& 31)) &&& (1 : Int32))) + ((P0 >>> ((3 : Int32) &&& 31)) &&& (1 : Int32)))), .val (.ref b185), .val (.int ((0 : Int32) + (1 : Int32)))] [(.int (4 : Int32)), (.int P0)])) _
        refine XS.iand X188.here hx rfl (hb hby d1_64) rfl ?_
        show Steps p.tables e below (T188.setTop (mkF m 65 #[.val (.int P0), .val (.int P1), .val (.int P2), .val (.int P3), .val (.int P4), .val (.int ((((P0 &&& (1 : Int32)) + ((P0 >>> ((1 : Int32) &&& 31)) &&& (1 : Int32))) + ((P0 >>> ((2 : Int32) &&& 31)) &&& (1 : Int32))) + ((P0 >>> ((3 : Int32) &&& 31)) &&& (1 : Int32)))), .val (.ref b185), .val (.int ((0 : Int32) + (1 : Int32)))] [(.int (P0 &&& (4 : Int32)))])) _
        refine XS.ifYes X188.here hx rfl (pc0 := 65) (pc' := 77) rfl (hb hby d1_65) rfl ((if0 _ _).trans (teq (show (P0 &&& (4 : Int32)) = (0 : Int32) from (by first | decide | (rw [hk]; decide)))).1) (by decide) (by decide) ?_
        show Steps p.tables e below (T188.setTop (mkF m 77 #[.val (.int P0), .val (.int P1), .val (.int P2), .val (.int P3), .val (.int P4), .val (.int ((((P0 &&& (1 : Int32)) + ((P0 >>> ((1 : Int32) &&& 31)) &&& (1 : Int32))) + ((P0 >>> ((2 : Int32) &&& 31)) &&& (1 : Int32))) + ((P0 >>> ((3 : Int32) &&& 31)) &&& (1 : Int32)))), .val (.ref b185), .val (.int ((0 : Int32) + (1 : Int32)))] [])) _
        refine XS.iloadN X188.here hx rfl (hb hby d1_77) rfl ?_
        show Steps p.tables e below (T188.setTop (mkF m 78 #[.val (.int P0), .val (.int P1), .val (.int P2), .val (.int P3), .val (.int P4), .val (.int ((((P0 &&& (1 : Int32)) + ((P0 >>> ((1 : Int32) &&& 31)) &&& (1 : Int32))) + ((P0 >>> ((2 : Int32) &&& 31)) &&& (1 : Int32))) + ((P0 >>> ((3 : Int32) &&& 31)) &&& (1 : Int32)))), .val (.ref b185), .val (.int ((0 : Int32) + (1 : Int32)))] [(.int P0)])) _
        refine XS.bipush X188.here hx rfl (hb hby d1_78) ?_
        show Steps p.tables e below (T188.setTop (mkF m 80 #[.val (.int P0), .val (.int P1), .val (.int P2), .val (.int P3), .val (.int P4), .val (.int ((((P0 &&& (1 : Int32)) + ((P0 >>> ((1 : Int32) &&& 31)) &&& (1 : Int32))) + ((P0 >>> ((2 : Int32) &&& 31)) &&& (1 : Int32))) + ((P0 >>> ((3 : Int32) &&& 31)) &&& (1 : Int32)))), .val (.ref b185), .val (.int ((0 : Int32) + (1 : Int32)))] [(.int (8 : Int32)), (.int P0)])) _
        refine XS.iand X188.here hx rfl (hb hby d1_80) rfl ?_
        show Steps p.tables e below (T188.setTop (mkF m 81 #[.val (.int P0), .val (.int P1), .val (.int P2), .val (.int P3), .val (.int P4), .val (.int ((((P0 &&& (1 : Int32)) + ((P0 >>> ((1 : Int32) &&& 31)) &&& (1 : Int32))) + ((P0 >>> ((2 : Int32) &&& 31)) &&& (1 : Int32))) + ((P0 >>> ((3 : Int32) &&& 31)) &&& (1 : Int32)))), .val (.ref b185), .val (.int ((0 : Int32) + (1 : Int32)))] [(.int (P0 &&& (8 : Int32)))])) _
        refine XS.ifNo X188.here hx rfl (hb hby d1_81) rfl ((if0 _ _).trans (feq (show ¬ ((P0 &&& (8 : Int32)) = (0 : Int32)) from (by first | decide | (rw [hk]; decide)))).1) ?_
        show Steps p.tables e below (T188.setTop (mkF m 84 #[.val (.int P0), .val (.int P1), .val (.int P2), .val (.int P3), .val (.int P4), .val (.int ((((P0 &&& (1 : Int32)) + ((P0 >>> ((1 : Int32) &&& 31)) &&& (1 : Int32))) + ((P0 >>> ((2 : Int32) &&& 31)) &&& (1 : Int32))) + ((P0 >>> ((3 : Int32) &&& 31)) &&& (1 : Int32)))), .val (.ref b185), .val (.int ((0 : Int32) + (1 : Int32)))] [])) _
        refine XS.aload X188.here hx rfl (hb hby d1_84) rfl rfl ?_
        show Steps p.tables e below (T188.setTop (mkF m 86 #[.val (.int P0), .val (.int P1), .val (.int P2), .val (.int P3), .val (.int P4), .val (.int ((((P0 &&& (1 : Int32)) + ((P0 >>> ((1 : Int32) &&& 31)) &&& (1 : Int32))) + ((P0 >>> ((2 : Int32) &&& 31)) &&& (1 : Int32))) + ((P0 >>> ((3 : Int32) &&& 31)) &&& (1 : Int32)))), .val (.ref b185), .val (.int ((0 : Int32) + (1 : Int32)))] [(.ref b185)])) _
        refine XS.iload X188.here hx rfl (hb hby d1_86) rfl ?_
        show Steps p.tables e below (T188.setTop (mkF m 88 #[.val (.int P0), .val (.int P1), .val (.int P2), .val (.int P3), .val (.int P4), .val (.int ((((P0 &&& (1 : Int32)) + ((P0 >>> ((1 : Int32) &&& 31)) &&& (1 : Int32))) + ((P0 >>> ((2 : Int32) &&& 31)) &&& (1 : Int32))) + ((P0 >>> ((3 : Int32) &&& 31)) &&& (1 : Int32)))), .val (.ref b185), .val (.int ((0 : Int32) + (1 : Int32)))] [(.int ((0 : Int32) + (1 : Int32))), (.ref b185)])) _
        refine XS.iload X188.here hx rfl (hb hby d1_88) rfl ?_
        show Steps p.tables e below (T188.setTop (mkF m 90 #[.val (.int P0), .val (.int P1), .val (.int P2), .val (.int P3), .val (.int P4), .val (.int ((((P0 &&& (1 : Int32)) + ((P0 >>> ((1 : Int32) &&& 31)) &&& (1 : Int32))) + ((P0 >>> ((2 : Int32) &&& 31)) &&& (1 : Int32))) + ((P0 >>> ((3 : Int32) &&& 31)) &&& (1 : Int32)))), .val (.ref b185), .val (.int ((0 : Int32) + (1 : Int32)))] [(.int P4), (.int ((0 : Int32) + (1 : Int32))), (.ref b185)])) _
        refine st191 _ ?_
        show Steps p.tables e below (T191.setTop (mkF m 91 #[.val (.int P0), .val (.int P1), .val (.int P2), .val (.int P3), .val (.int P4), .val (.int ((((P0 &&& (1 : Int32)) + ((P0 >>> ((1 : Int32) &&& 31)) &&& (1 : Int32))) + ((P0 >>> ((2 : Int32) &&& 31)) &&& (1 : Int32))) + ((P0 >>> ((3 : Int32) &&& 31)) &&& (1 : Int32)))), .val (.ref b185), .val (.int ((0 : Int32) + (1 : Int32)))] [])) _
        refine XS.iinc X191.here hx rfl (hb hby d1_91) rfl (l' := #[.val (.int P0), .val (.int P1), .val (.int P2), .val (.int P3), .val (.int P4), .val (.int ((((P0 &&& (1 : Int32)) + ((P0 >>> ((1 : Int32) &&& 31)) &&& (1 : Int32))) + ((P0 >>> ((2 : Int32) &&& 31)) &&& (1 : Int32))) + ((P0 >>> ((3 : Int32) &&& 31)) &&& (1 : Int32)))), .val (.ref b185), .val (.int (((0 : Int32) + (1 : Int32)) + (1 : Int32)))]) rfl ?_
        show Steps p.tables e below (T191.setTop (mkF m 94 #[.val (.int P0), .val (.int P1), .val (.int P2), .val (.int P3), .val (.int P4), .val (.int ((((P0 &&& (1 : Int32)) + ((P0 >>> ((1 : Int32) &&& 31)) &&& (1 : Int32))) + ((P0 >>> ((2 : Int32) &&& 31)) &&& (1 : Int32))) + ((P0 >>> ((3 : Int32) &&& 31)) &&& (1 : Int32)))), .val (.ref b185), .val (.int (((0 : Int32) + (1 : Int32)) + (1 : Int32)))] [])) _
        refine XS.aload X191.here hx rfl (hb hby d1_94) rfl rfl ?_
        exact kt)
    have hsel : (own_sel P0 P1 P2 P3 P4).map Value.int = [(.int P2), (.int P4)] := by rw [hk, own_sel10]; rfl
    have c194 : Exa Z h191 b185 "[I" := ((EX185.wr W188).wr W191)
    obtain ⟨fs, hr, hrun, hended, hW, hsame⟩ := X191.leave (v := some (.ref b185)) (fun h => by rw [Bd.returns] at h; cases h)
    refine ⟨_, _, pre193 _ ?_, hrun, hended, _, _, rfl, ?_, ⟨_, rfl⟩, hW, hsame.mono (by decide) (by decide)⟩
    · show Steps p.tables e below (T191.setTop (mkF m 96 #[.val (.int P0), .val (.int P1), .val (.int P2), .val (.int P3), .val (.int P4), .val (.int ((((P0 &&& (1 : Int32)) + ((P0 >>> ((1 : Int32) &&& 31)) &&& (1 : Int32))) + ((P0 >>> ((2 : Int32) &&& 31)) &&& (1 : Int32))) + ((P0 >>> ((3 : Int32) &&& 31)) &&& (1 : Int32)))), .val (.ref b185), .val (.int (((0 : Int32) + (1 : Int32)) + (1 : Int32)))] [(.ref b185)])) _
      exact retOut X191 hx Bd.returns rfl (Or.inr (Or.inr (Or.inr (Or.inr ⟨rfl, rfl, rfl⟩)))) (hb hby d1_96) hr
    · show Q1 Z P0 P1 P2 P3 P4 h0 n0 _ T191.heap _
      rw [e191]
      exact ⟨b185, k185, rfl, N191, K_192, sz_b185, c194, (by rw [hsel]; exact V191)⟩
  · obtain ⟨T195, h195, k195, X195, e195, E195, A195, EX195, st195⟩ := newPE X0 hx hZ (hw _ (List.mem_of_getElem? (i := 8) rfl)) e0 (g := (mkF m 25 #[.val (.int P0), .val (.int P1), .val (.int P2), .val (.int P3), .val (.int P4), .val (.int ((((P0 &&& (1 : Int32)) + ((P0 >>> ((1 : Int32) &&& 31)) &&& (1 : Int32))) + ((P0 >>> ((2 : Int32) &&& 31)) &&& (1 : Int32))) + ((P0 >>> ((3 : Int32) &&& 31)) &&& (1 : Int32)))), .unset, .unset] [(.int ((((P0 &&& (1 : Int32)) + ((P0 >>> ((1 : Int32) &&& 31)) &&& (1 : Int32))) + ((P0 >>> ((2 : Int32) &&& 31)) &&& (1 : Int32))) + ((P0 >>> ((3 : Int32) &&& 31)) &&& (1 : Int32))))])) rfl (hb hby d1_25) rfl (by first | decide | (rw [hk]; decide)) (cap := 4) (by first | decide | (rw [hk]; decide)) (by decide) (by decide) (by decide) (ad := "[I") (by decide)
    obtain ⟨b195, q195⟩ : ∃ z, z = h0.size := ⟨_, rfl⟩
    rw [← q195] at A195 EX195 st195
    have g_b195 : n0 ≤ b195 := Nat.le_trans Z0 (Nat.le_of_eq q195.symm)
    have sz_b195 : h0.size ≤ b195 := Nat.le_trans K_0.1 (Nat.le_of_eq q195.symm)
    have Z196 : n0 ≤ h195.size := Nat.le_trans Z0 E195.1
    have K_196 : Keep h0 h195 [] := K_0.ext E195
    have V195 : Arv Z h195 b195 k195 .int ((((P0 &&& (1 : Int32)) + ((P0 >>> ((1 : Int32) &&& 31)) &&& (1 : Int32))) + ((P0 >>> ((2 : Int32) &&& 31)) &&& (1 : Int32))) + ((P0 >>> ((3 : Int32) &&& 31)) &&& (1 : Int32))) [(.int (0 : Int32)), (.int (0 : Int32)), (.int (0 : Int32))] (.int (0 : Int32)) := (Arv.new A195 (by first | decide | (rw [hk]; decide))).pad (pad_rep [] (.int (0 : Int32)) 3)
    obtain ⟨cl197, Ar197, q197, S197, N_197, H197, G197⟩ := id V195
    have hin197 : ¬ ((0 : Int32) < 0 ∨ cl197.slots.size ≤ ((0 : Int32)).toNatClampNeg) := inb_of S197 ⟨by first | decide | (rw [hk]; decide), by first | decide | (rw [hk]; decide)⟩
    obtain ⟨T198, h198, X198, e198, W198, st198⟩ := stI X195 hx hZ e195 Ar197 (j := (0 : Int32)) hin197 (g := (mkF m 43 #[.val (.int P0), .val (.int P1), .val (.int P2), .val (.int P3), .val (.int P4), .val (.int ((((P0 &&& (1 : Int32)) + ((P0 >>> ((1 : Int32) &&& 31)) &&& (1 : Int32))) + ((P0 >>> ((2 : Int32) &&& 31)) &&& (1 : Int32))) + ((P0 >>> ((3 : Int32) &&& 31)) &&& (1 : Int32)))), .val (.ref b195), .val (.int (0 : Int32))] [(.int P1), (.int (0 : Int32)), (.ref b195)])) rfl rfl (hb hby d1_43)
    have Z199 : n0 ≤ h198.size := Nat.le_trans Z196 (Nat.le_of_eq W198.size.symm)
    have K_199 : Keep h0 h198 [] := K_196.wr W198 (Or.inr sz_b195)
    have V198 : Arv Z h198 b195 k195 .int ((((P0 &&& (1 : Int32)) + ((P0 >>> ((1 : Int32) &&& 31)) &&& (1 : Int32))) + ((P0 >>> ((2 : Int32) &&& 31)) &&& (1 : Int32))) + ((P0 >>> ((3 : Int32) &&& 31)) &&& (1 : Int32))) [(.int P1), (.int (0 : Int32)), (.int (0 : Int32))] (.int (0 : Int32)) := Arv.set Ar197 q197 S197 N_197 H197 G197 rfl W198 0 rfl (Nat.le_of_ble_eq_true rfl)
    have N198 := Fr.snoc X198 N0 g_b195
    obtain ⟨cl200, Ar200, q200, S200, N_200, H200, G200⟩ := id V198
    have hin200 : ¬ (((0 : Int32) + (1 : Int32)) < 0 ∨ cl200.slots.size ≤ (((0 : Int32) + (1 : Int32))).toNatClampNeg) := inb_of S200 ⟨by first | decide | (rw [hk]; decide), by first | decide | (rw [hk]; decide)⟩
    obtain ⟨T201, h201, X201, e201, W201, st201⟩ := stI X198 hx hZ e198 Ar200 (j := ((0 : Int32) + (1 : Int32))) hin200 (g := (mkF m 58 #[.val (.int P0), .val (.int P1), .val (.int P2), .val (.int P3), .val (.int P4), .val (.int ((((P0 &&& (1 : Int32)) + ((P0 >>> ((1 : Int32) &&& 31)) &&& (1 : Int32))) + ((P0 >>> ((2 : Int32) &&& 31)) &&& (1 : Int32))) + ((P0 >>> ((3 : Int32) &&& 31)) &&& (1 : Int32)))), .val (.ref b195), .val (.int ((0 : Int32) + (1 : Int32)))] [(.int P2), (.int ((0 : Int32) + (1 : Int32))), (.ref b195)])) rfl rfl (hb hby d1_58)
    have Z202 : n0 ≤ h201.size := Nat.le_trans Z199 (Nat.le_of_eq W201.size.symm)
    have K_202 : Keep h0 h201 [] := K_199.wr W201 (Or.inr sz_b195)
    have V201 : Arv Z h201 b195 k195 .int ((((P0 &&& (1 : Int32)) + ((P0 >>> ((1 : Int32) &&& 31)) &&& (1 : Int32))) + ((P0 >>> ((2 : Int32) &&& 31)) &&& (1 : Int32))) + ((P0 >>> ((3 : Int32) &&& 31)) &&& (1 : Int32))) [(.int P1), (.int P2), (.int (0 : Int32))] (.int (0 : Int32)) := Arv.set Ar200 q200 S200 N_200 H200 G200 rfl W201 1 (by decide) (Nat.le_of_ble_eq_true rfl)
    have N201 := Fr.snoc X201 N198 g_b195
    obtain ⟨cl203, Ar203, q203, S203, N_203, H203, G203⟩ := id V201
    have hin203 : ¬ ((((0 : Int32) + (1 : Int32)) + (1 : Int32)) < 0 ∨ cl203.slots.size ≤ ((((0 : Int32) + (1 : Int32)) + (1 : Int32))).toNatClampNeg) := inb_of S203 ⟨by first | decide | (rw [hk]; decide), by first | decide | (rw [hk]; decide)⟩
    obtain ⟨T204, h204, X204, e204, W204, st204⟩ := stI X201 hx hZ e201 Ar203 (j := (((0 : Int32) + (1 : Int32)) + (1 : Int32))) hin203 (g := (mkF m 90 #[.val (.int P0), .val (.int P1), .val (.int P2), .val (.int P3), .val (.int P4), .val (.int ((((P0 &&& (1 : Int32)) + ((P0 >>> ((1 : Int32) &&& 31)) &&& (1 : Int32))) + ((P0 >>> ((2 : Int32) &&& 31)) &&& (1 : Int32))) + ((P0 >>> ((3 : Int32) &&& 31)) &&& (1 : Int32)))), .val (.ref b195), .val (.int (((0 : Int32) + (1 : Int32)) + (1 : Int32)))] [(.int P4), (.int (((0 : Int32) + (1 : Int32)) + (1 : Int32))), (.ref b195)])) rfl rfl (hb hby d1_90)
    have Z205 : n0 ≤ h204.size := Nat.le_trans Z202 (Nat.le_of_eq W204.size.symm)
    have K_205 : Keep h0 h204 [] := K_202.wr W204 (Or.inr sz_b195)
    have V204 : Arv Z h204 b195 k195 .int ((((P0 &&& (1 : Int32)) + ((P0 >>> ((1 : Int32) &&& 31)) &&& (1 : Int32))) + ((P0 >>> ((2 : Int32) &&& 31)) &&& (1 : Int32))) + ((P0 >>> ((3 : Int32) &&& 31)) &&& (1 : Int32))) [(.int P1), (.int P2), (.int P4)] (.int (0 : Int32)) := Arv.set Ar203 q203 S203 N_203 H203 G203 rfl W204 2 (by decide) (Nat.le_of_ble_eq_true rfl)
    have N204 := Fr.snoc X204 N201 g_b195
    have pre206 : ∀ t, Steps p.tables e below (T204.setTop (mkF m 96 #[.val (.int P0), .val (.int P1), .val (.int P2), .val (.int P3), .val (.int P4), .val (.int ((((P0 &&& (1 : Int32)) + ((P0 >>> ((1 : Int32) &&& 31)) &&& (1 : Int32))) + ((P0 >>> ((2 : Int32) &&& 31)) &&& (1 : Int32))) + ((P0 >>> ((3 : Int32) &&& 31)) &&& (1 : Int32)))), .val (.ref b195), .val (.int ((((0 : Int32) + (1 : Int32)) + (1 : Int32)) + (1 : Int32)))] [(.ref b195)])) t → Steps p.tables e below (s₁.setTop (entryFrame m #[(.int P0), (.int P1), (.int P2), (.int P3), (.int P4)] 8)) t := fun t kt => pre0 t (by
        show Steps p.tables e below (s₁.setTop (mkF m 0 #[.val (.int P0), .val (.int P1), .val (.int P2), .val (.int P3), .val (.int P4), .unset, .unset, .unset] [])) _
        refine XS.iloadN X0.here hx rfl (hb hby d1_0) rfl ?_
        show Steps p.tables e below (s₁.setTop (mkF m 1 #[.val (.int P0), .val (.int P1), .val (.int P2), .val (.int P3), .val (.int P4), .unset, .unset, .unset] [(.int P0)])) _
        refine XS.iconst X0.here hx rfl (hb hby d1_1) ?_
        show Steps p.tables e below (s₁.setTop (mkF m 2 #[.val (.int P0), .val (.int P1), .val (.int P2), .val (.int P3), .val (.int P4), .unset, .unset, .unset] [(.int (1 : Int32)), (.int P0)])) _
        refine XS.iand X0.here hx rfl (hb hby d1_2) rfl ?_
        show Steps p.tables e below (s₁.setTop (mkF m 3 #[.val (.int P0), .val (.int P1), .val (.int P2), .val (.int P3), .val (.int P4), .unset, .unset, .unset] [(.int (P0 &&& (1 : Int32)))])) _
        refine XS.iloadN X0.here hx rfl (hb hby d1_3) rfl ?_
        show Steps p.tables e below (s₁.setTop (mkF m 4 #[.val (.int P0), .val (.int P1), .val (.int P2), .val (.int P3), .val (.int P4), .unset, .unset, .unset] [(.int P0), (.int (P0 &&& (1 : Int32)))])) _
        refine XS.iconst X0.here hx rfl (hb hby d1_4) ?_
        show Steps p.tables e below (s₁.setTop (mkF m 5 #[.val (.int P0), .val (.int P1), .val (.int P2), .val (.int P3), .val (.int P4), .unset, .unset, .unset] [(.int (1 : Int32)), (.int P0), (.int (P0 &&& (1 : Int32)))])) _
        refine XS.ishr X0.here hx rfl (hb hby d1_5) rfl ?_
        show Steps p.tables e below (s₁.setTop (mkF m 6 #[.val (.int P0), .val (.int P1), .val (.int P2), .val (.int P3), .val (.int P4), .unset, .unset, .unset] [(.int (P0 >>> ((1 : Int32) &&& 31))), (.int (P0 &&& (1 : Int32)))])) _
        refine XS.iconst X0.here hx rfl (hb hby d1_6) ?_
        show Steps p.tables e below (s₁.setTop (mkF m 7 #[.val (.int P0), .val (.int P1), .val (.int P2), .val (.int P3), .val (.int P4), .unset, .unset, .unset] [(.int (1 : Int32)), (.int (P0 >>> ((1 : Int32) &&& 31))), (.int (P0 &&& (1 : Int32)))])) _
        refine XS.iand X0.here hx rfl (hb hby d1_7) rfl ?_
        show Steps p.tables e below (s₁.setTop (mkF m 8 #[.val (.int P0), .val (.int P1), .val (.int P2), .val (.int P3), .val (.int P4), .unset, .unset, .unset] [(.int ((P0 >>> ((1 : Int32) &&& 31)) &&& (1 : Int32))), (.int (P0 &&& (1 : Int32)))])) _
        refine XS.iadd X0.here hx rfl (hb hby d1_8) rfl ?_
        show Steps p.tables e below (s₁.setTop (mkF m 9 #[.val (.int P0), .val (.int P1), .val (.int P2), .val (.int P3), .val (.int P4), .unset, .unset, .unset] [(.int ((P0 &&& (1 : Int32)) + ((P0 >>> ((1 : Int32) &&& 31)) &&& (1 : Int32))))])) _
        refine XS.iloadN X0.here hx rfl (hb hby d1_9) rfl ?_
        show Steps p.tables e below (s₁.setTop (mkF m 10 #[.val (.int P0), .val (.int P1), .val (.int P2), .val (.int P3), .val (.int P4), .unset, .unset, .unset] [(.int P0), (.int ((P0 &&& (1 : Int32)) + ((P0 >>> ((1 : Int32) &&& 31)) &&& (1 : Int32))))])) _
        refine XS.iconst X0.here hx rfl (hb hby d1_10) ?_
        show Steps p.tables e below (s₁.setTop (mkF m 11 #[.val (.int P0), .val (.int P1), .val (.int P2), .val (.int P3), .val (.int P4), .unset, .unset, .unset] [(.int (2 : Int32)), (.int P0), (.int ((P0 &&& (1 : Int32)) + ((P0 >>> ((1 : Int32) &&& 31)) &&& (1 : Int32))))])) _
        refine XS.ishr X0.here hx rfl (hb hby d1_11) rfl ?_
        show Steps p.tables e below (s₁.setTop (mkF m 12 #[.val (.int P0), .val (.int P1), .val (.int P2), .val (.int P3), .val (.int P4), .unset, .unset, .unset] [(.int (P0 >>> ((2 : Int32) &&& 31))), (.int ((P0 &&& (1 : Int32)) + ((P0 >>> ((1 : Int32) &&& 31)) &&& (1 : Int32))))])) _
        refine XS.iconst X0.here hx rfl (hb hby d1_12) ?_
        show Steps p.tables e below (s₁.setTop (mkF m 13 #[.val (.int P0), .val (.int P1), .val (.int P2), .val (.int P3), .val (.int P4), .unset, .unset, .unset] [(.int (1 : Int32)), (.int (P0 >>> ((2 : Int32) &&& 31))), (.int ((P0 &&& (1 : Int32)) + ((P0 >>> ((1 : Int32) &&& 31)) &&& (1 : Int32))))])) _
        refine XS.iand X0.here hx rfl (hb hby d1_13) rfl ?_
        show Steps p.tables e below (s₁.setTop (mkF m 14 #[.val (.int P0), .val (.int P1), .val (.int P2), .val (.int P3), .val (.int P4), .unset, .unset, .unset] [(.int ((P0 >>> ((2 : Int32) &&& 31)) &&& (1 : Int32))), (.int ((P0 &&& (1 : Int32)) + ((P0 >>> ((1 : Int32) &&& 31)) &&& (1 : Int32))))])) _
        refine XS.iadd X0.here hx rfl (hb hby d1_14) rfl ?_
        show Steps p.tables e below (s₁.setTop (mkF m 15 #[.val (.int P0), .val (.int P1), .val (.int P2), .val (.int P3), .val (.int P4), .unset, .unset, .unset] [(.int (((P0 &&& (1 : Int32)) + ((P0 >>> ((1 : Int32) &&& 31)) &&& (1 : Int32))) + ((P0 >>> ((2 : Int32) &&& 31)) &&& (1 : Int32))))])) _
        refine XS.iloadN X0.here hx rfl (hb hby d1_15) rfl ?_
        show Steps p.tables e below (s₁.setTop (mkF m 16 #[.val (.int P0), .val (.int P1), .val (.int P2), .val (.int P3), .val (.int P4), .unset, .unset, .unset] [(.int P0), (.int (((P0 &&& (1 : Int32)) + ((P0 >>> ((1 : Int32) &&& 31)) &&& (1 : Int32))) + ((P0 >>> ((2 : Int32) &&& 31)) &&& (1 : Int32))))])) _
        refine XS.iconst X0.here hx rfl (hb hby d1_16) ?_
        show Steps p.tables e below (s₁.setTop (mkF m 17 #[.val (.int P0), .val (.int P1), .val (.int P2), .val (.int P3), .val (.int P4), .unset, .unset, .unset] [(.int (3 : Int32)), (.int P0), (.int (((P0 &&& (1 : Int32)) + ((P0 >>> ((1 : Int32) &&& 31)) &&& (1 : Int32))) + ((P0 >>> ((2 : Int32) &&& 31)) &&& (1 : Int32))))])) _
        refine XS.ishr X0.here hx rfl (hb hby d1_17) rfl ?_
        show Steps p.tables e below (s₁.setTop (mkF m 18 #[.val (.int P0), .val (.int P1), .val (.int P2), .val (.int P3), .val (.int P4), .unset, .unset, .unset] [(.int (P0 >>> ((3 : Int32) &&& 31))), (.int (((P0 &&& (1 : Int32)) + ((P0 >>> ((1 : Int32) &&& 31)) &&& (1 : Int32))) + ((P0 >>> ((2 : Int32) &&& 31)) &&& (1 : Int32))))])) _
        refine XS.iconst X0.here hx rfl (hb hby d1_18) ?_
        show Steps p.tables e below (s₁.setTop (mkF m 19 #[.val (.int P0), .val (.int P1), .val (.int P2), .val (.int P3), .val (.int P4), .unset, .unset, .unset] [(.int (1 : Int32)), (.int (P0 >>> ((3 : Int32) &&& 31))), (.int (((P0 &&& (1 : Int32)) + ((P0 >>> ((1 : Int32) &&& 31)) &&& (1 : Int32))) + ((P0 >>> ((2 : Int32) &&& 31)) &&& (1 : Int32))))])) _
        refine XS.iand X0.here hx rfl (hb hby d1_19) rfl ?_
        show Steps p.tables e below (s₁.setTop (mkF m 20 #[.val (.int P0), .val (.int P1), .val (.int P2), .val (.int P3), .val (.int P4), .unset, .unset, .unset] [(.int ((P0 >>> ((3 : Int32) &&& 31)) &&& (1 : Int32))), (.int (((P0 &&& (1 : Int32)) + ((P0 >>> ((1 : Int32) &&& 31)) &&& (1 : Int32))) + ((P0 >>> ((2 : Int32) &&& 31)) &&& (1 : Int32))))])) _
        refine XS.iadd X0.here hx rfl (hb hby d1_20) rfl ?_
        show Steps p.tables e below (s₁.setTop (mkF m 21 #[.val (.int P0), .val (.int P1), .val (.int P2), .val (.int P3), .val (.int P4), .unset, .unset, .unset] [(.int ((((P0 &&& (1 : Int32)) + ((P0 >>> ((1 : Int32) &&& 31)) &&& (1 : Int32))) + ((P0 >>> ((2 : Int32) &&& 31)) &&& (1 : Int32))) + ((P0 >>> ((3 : Int32) &&& 31)) &&& (1 : Int32))))])) _
        refine XS.istore X0.here hx rfl (hb hby d1_21) rfl (l' := #[.val (.int P0), .val (.int P1), .val (.int P2), .val (.int P3), .val (.int P4), .val (.int ((((P0 &&& (1 : Int32)) + ((P0 >>> ((1 : Int32) &&& 31)) &&& (1 : Int32))) + ((P0 >>> ((2 : Int32) &&& 31)) &&& (1 : Int32))) + ((P0 >>> ((3 : Int32) &&& 31)) &&& (1 : Int32)))), .unset, .unset]) rfl ?_
        show Steps p.tables e below (s₁.setTop (mkF m 23 #[.val (.int P0), .val (.int P1), .val (.int P2), .val (.int P3), .val (.int P4), .val (.int ((((P0 &&& (1 : Int32)) + ((P0 >>> ((1 : Int32) &&& 31)) &&& (1 : Int32))) + ((P0 >>> ((2 : Int32) &&& 31)) &&& (1 : Int32))) + ((P0 >>> ((3 : Int32) &&& 31)) &&& (1 : Int32)))), .unset, .unset] [])) _
        refine XS.iload X0.here hx rfl (hb hby d1_23) rfl ?_
        show Steps p.tables e below (s₁.setTop (mkF m 25 #[.val (.int P0), .val (.int P1), .val (.int P2), .val (.int P3), .val (.int P4), .val (.int ((((P0 &&& (1 : Int32)) + ((P0 >>> ((1 : Int32) &&& 31)) &&& (1 : Int32))) + ((P0 >>> ((2 : Int32) &&& 31)) &&& (1 : Int32))) + ((P0 >>> ((3 : Int32) &&& 31)) &&& (1 : Int32)))), .unset, .unset] [(.int ((((P0 &&& (1 : Int32)) + ((P0 >>> ((1 : Int32) &&& 31)) &&& (1 : Int32))) + ((P0 >>> ((2 : Int32) &&& 31)) &&& (1 : Int32))) + ((P0 >>> ((3 : Int32) &&& 31)) &&& (1 : Int32))))])) _
        refine st195 _ ?_
        show Steps p.tables e below (T195.setTop (mkF m 27 #[.val (.int P0), .val (.int P1), .val (.int P2), .val (.int P3), .val (.int P4), .val (.int ((((P0 &&& (1 : Int32)) + ((P0 >>> ((1 : Int32) &&& 31)) &&& (1 : Int32))) + ((P0 >>> ((2 : Int32) &&& 31)) &&& (1 : Int32))) + ((P0 >>> ((3 : Int32) &&& 31)) &&& (1 : Int32)))), .unset, .unset] [(.ref b195)])) _
        refine XS.astore X195.here hx rfl (hb hby d1_27) rfl rfl (l' := #[.val (.int P0), .val (.int P1), .val (.int P2), .val (.int P3), .val (.int P4), .val (.int ((((P0 &&& (1 : Int32)) + ((P0 >>> ((1 : Int32) &&& 31)) &&& (1 : Int32))) + ((P0 >>> ((2 : Int32) &&& 31)) &&& (1 : Int32))) + ((P0 >>> ((3 : Int32) &&& 31)) &&& (1 : Int32)))), .val (.ref b195), .unset]) rfl ?_
        show Steps p.tables e below (T195.setTop (mkF m 29 #[.val (.int P0), .val (.int P1), .val (.int P2), .val (.int P3), .val (.int P4), .val (.int ((((P0 &&& (1 : Int32)) + ((P0 >>> ((1 : Int32) &&& 31)) &&& (1 : Int32))) + ((P0 >>> ((2 : Int32) &&& 31)) &&& (1 : Int32))) + ((P0 >>> ((3 : Int32) &&& 31)) &&& (1 : Int32)))), .val (.ref b195), .unset] [])) _
        refine XS.iconst X195.here hx rfl (hb hby d1_29) ?_
        show Steps p.tables e below (T195.setTop (mkF m 30 #[.val (.int P0), .val (.int P1), .val (.int P2), .val (.int P3), .val (.int P4), .val (.int ((((P0 &&& (1 : Int32)) + ((P0 >>> ((1 : Int32) &&& 31)) &&& (1 : Int32))) + ((P0 >>> ((2 : Int32) &&& 31)) &&& (1 : Int32))) + ((P0 >>> ((3 : Int32) &&& 31)) &&& (1 : Int32)))), .val (.ref b195), .unset] [(.int (0 : Int32))])) _
        refine XS.istore X195.here hx rfl (hb hby d1_30) rfl (l' := #[.val (.int P0), .val (.int P1), .val (.int P2), .val (.int P3), .val (.int P4), .val (.int ((((P0 &&& (1 : Int32)) + ((P0 >>> ((1 : Int32) &&& 31)) &&& (1 : Int32))) + ((P0 >>> ((2 : Int32) &&& 31)) &&& (1 : Int32))) + ((P0 >>> ((3 : Int32) &&& 31)) &&& (1 : Int32)))), .val (.ref b195), .val (.int (0 : Int32))]) rfl ?_
        show Steps p.tables e below (T195.setTop (mkF m 32 #[.val (.int P0), .val (.int P1), .val (.int P2), .val (.int P3), .val (.int P4), .val (.int ((((P0 &&& (1 : Int32)) + ((P0 >>> ((1 : Int32) &&& 31)) &&& (1 : Int32))) + ((P0 >>> ((2 : Int32) &&& 31)) &&& (1 : Int32))) + ((P0 >>> ((3 : Int32) &&& 31)) &&& (1 : Int32)))), .val (.ref b195), .val (.int (0 : Int32))] [])) _
        refine XS.iloadN X195.here hx rfl (hb hby d1_32) rfl ?_
        show Steps p.tables e below (T195.setTop (mkF m 33 #[.val (.int P0), .val (.int P1), .val (.int P2), .val (.int P3), .val (.int P4), .val (.int ((((P0 &&& (1 : Int32)) + ((P0 >>> ((1 : Int32) &&& 31)) &&& (1 : Int32))) + ((P0 >>> ((2 : Int32) &&& 31)) &&& (1 : Int32))) + ((P0 >>> ((3 : Int32) &&& 31)) &&& (1 : Int32)))), .val (.ref b195), .val (.int (0 : Int32))] [(.int P0)])) _
        refine XS.iconst X195.here hx rfl (hb hby d1_33) ?_
        show Steps p.tables e below (T195.setTop (mkF m 34 #[.val (.int P0), .val (.int P1), .val (.int P2), .val (.int P3), .val (.int P4), .val (.int ((((P0 &&& (1 : Int32)) + ((P0 >>> ((1 : Int32) &&& 31)) &&& (1 : Int32))) + ((P0 >>> ((2 : Int32) &&& 31)) &&& (1 : Int32))) + ((P0 >>> ((3 : Int32) &&& 31)) &&& (1 : Int32)))), .val (.ref b195), .val (.int (0 : Int32))] [(.int (1 : Int32)), (.int P0)])) _
        refine XS.iand X195.here hx rfl (hb hby d1_34) rfl ?_
        show Steps p.tables e below (T195.setTop (mkF m 35 #[.val (.int P0), .val (.int P1), .val (.int P2), .val (.int P3), .val (.int P4), .val (.int ((((P0 &&& (1 : Int32)) + ((P0 >>> ((1 : Int32) &&& 31)) &&& (1 : Int32))) + ((P0 >>> ((2 : Int32) &&& 31)) &&& (1 : Int32))) + ((P0 >>> ((3 : Int32) &&& 31)) &&& (1 : Int32)))), .val (.ref b195), .val (.int (0 : Int32))] [(.int (P0 &&& (1 : Int32)))])) _
        refine XS.ifNo X195.here hx rfl (hb hby d1_35) rfl ((if0 _ _).trans (feq (show ¬ ((P0 &&& (1 : Int32)) = (0 : Int32)) from (by first | decide | (rw [hk]; decide)))).1) ?_
        show Steps p.tables e below (T195.setTop (mkF m 38 #[.val (.int P0), .val (.int P1), .val (.int P2), .val (.int P3), .val (.int P4), .val (.int ((((P0 &&& (1 : Int32)) + ((P0 >>> ((1 : Int32) &&& 31)) &&& (1 : Int32))) + ((P0 >>> ((2 : Int32) &&& 31)) &&& (1 : Int32))) + ((P0 >>> ((3 : Int32) &&& 31)) &&& (1 : Int32)))), .val (.ref b195), .val (.int (0 : Int32))] [])) _
        refine XS.aload X195.here hx rfl (hb hby d1_38) rfl rfl ?_
        show Steps p.tables e below (T195.setTop (mkF m 40 #[.val (.int P0), .val (.int P1), .val (.int P2), .val (.int P3), .val (.int P4), .val (.int ((((P0 &&& (1 : Int32)) + ((P0 >>> ((1 : Int32) &&& 31)) &&& (1 : Int32))) + ((P0 >>> ((2 : Int32) &&& 31)) &&& (1 : Int32))) + ((P0 >>> ((3 : Int32) &&& 31)) &&& (1 : Int32)))), .val (.ref b195), .val (.int (0 : Int32))] [(.ref b195)])) _
        refine XS.iload X195.here hx rfl (hb hby d1_40) rfl ?_
        show Steps p.tables e below (T195.setTop (mkF m 42 #[.val (.int P0), .val (.int P1), .val (.int P2), .val (.int P3), .val (.int P4), .val (.int ((((P0 &&& (1 : Int32)) + ((P0 >>> ((1 : Int32) &&& 31)) &&& (1 : Int32))) + ((P0 >>> ((2 : Int32) &&& 31)) &&& (1 : Int32))) + ((P0 >>> ((3 : Int32) &&& 31)) &&& (1 : Int32)))), .val (.ref b195), .val (.int (0 : Int32))] [(.int (0 : Int32)), (.ref b195)])) _
        refine XS.iloadN X195.here hx rfl (hb hby d1_42) rfl ?_
        show Steps p.tables e below (T195.setTop (mkF m 43 #[.val (.int P0), .val (.int P1), .val (.int P2), .val (.int P3), .val (.int P4), .val (.int ((((P0 &&& (1 : Int32)) + ((P0 >>> ((1 : Int32) &&& 31)) &&& (1 : Int32))) + ((P0 >>> ((2 : Int32) &&& 31)) &&& (1 : Int32))) + ((P0 >>> ((3 : Int32) &&& 31)) &&& (1 : Int32)))), .val (.ref b195), .val (.int (0 : Int32))] [(.int P1), (.int (0 : Int32)), (.ref b195)])) _
        refine st198 _ ?_
        show Steps p.tables e below (T198.setTop (mkF m 44 #[.val (.int P0), .val (.int P1), .val (.int P2), .val (.int P3), .val (.int P4), .val (.int ((((P0 &&& (1 : Int32)) + ((P0 >>> ((1 : Int32) &&& 31)) &&& (1 : Int32))) + ((P0 >>> ((2 : Int32) &&& 31)) &&& (1 : Int32))) + ((P0 >>> ((3 : Int32) &&& 31)) &&& (1 : Int32)))), .val (.ref b195), .val (.int (0 : Int32))] [])) _
        refine XS.iinc X198.here hx rfl (hb hby d1_44) rfl (l' := #[.val (.int P0), .val (.int P1), .val (.int P2), .val (.int P3), .val (.int P4), .val (.int ((((P0 &&& (1 : Int32)) + ((P0 >>> ((1 : Int32) &&& 31)) &&& (1 : Int32))) + ((P0 >>> ((2 : Int32) &&& 31)) &&& (1 : Int32))) + ((P0 >>> ((3 : Int32) &&& 31)) &&& (1 : Int32)))), .val (.ref b195), .val (.int ((0 : Int32) + (1 : Int32)))]) rfl ?_
        show Steps p.tables e below (T198.setTop (mkF m 47 #[.val (.int P0), .val (.int P1), .val (.int P2), .val (.int P3), .val (.int P4), .val (.int ((((P0 &&& (1 : Int32)) + ((P0 >>> ((1 : Int32) &&& 31)) &&& (1 : Int32))) + ((P0 >>> ((2 : Int32) &&& 31)) &&& (1 : Int32))) + ((P0 >>> ((3 : Int32) &&& 31)) &&& (1 : Int32)))), .val (.ref b195), .val (.int ((0 : Int32) + (1 : Int32)))] [])) _
        refine XS.iloadN X198.here hx rfl (hb hby d1_47) rfl ?_
        show Steps p.tables e below (T198.setTop (mkF m 48 #[.val (.int P0), .val (.int P1), .val (.int P2), .val (.int P3), .val (.int P4), .val (.int ((((P0 &&& (1 : Int32)) + ((P0 >>> ((1 : Int32) &&& 31)) &&& (1 : Int32))) + ((P0 >>> ((2 : Int32) &&& 31)) &&& (1 : Int32))) + ((P0 >>> ((3 : Int32) &&& 31)) &&& (1 : Int32)))), .val (.ref b195), .val (.int ((0 : Int32) + (1 : Int32)))] [(.int P0)])) _
        refine XS.iconst X198.here hx rfl (hb hby d1_48) ?_
        show Steps p.tables e below (T198.setTop (mkF m 49 #[.val (.int P0), .val (.int P1), .val (.int P2), .val (.int P3), .val (.int P4), .val (.int ((((P0 &&& (1 : Int32)) + ((P0 >>> ((1 : Int32) &&& 31)) &&& (1 : Int32))) + ((P0 >>> ((2 : Int32) &&& 31)) &&& (1 : Int32))) + ((P0 >>> ((3 : Int32) &&& 31)) &&& (1 : Int32)))), .val (.ref b195), .val (.int ((0 : Int32) + (1 : Int32)))] [(.int (2 : Int32)), (.int P0)])) _
        refine XS.iand X198.here hx rfl (hb hby d1_49) rfl ?_
        show Steps p.tables e below (T198.setTop (mkF m 50 #[.val (.int P0), .val (.int P1), .val (.int P2), .val (.int P3), .val (.int P4), .val (.int ((((P0 &&& (1 : Int32)) + ((P0 >>> ((1 : Int32) &&& 31)) &&& (1 : Int32))) + ((P0 >>> ((2 : Int32) &&& 31)) &&& (1 : Int32))) + ((P0 >>> ((3 : Int32) &&& 31)) &&& (1 : Int32)))), .val (.ref b195), .val (.int ((0 : Int32) + (1 : Int32)))] [(.int (P0 &&& (2 : Int32)))])) _
        refine XS.ifNo X198.here hx rfl (hb hby d1_50) rfl ((if0 _ _).trans (feq (show ¬ ((P0 &&& (2 : Int32)) = (0 : Int32)) from (by first | decide | (rw [hk]; decide)))).1) ?_
        show Steps p.tables e below (T198.setTop (mkF m 53 #[.val (.int P0), .val (.int P1), .val (.int P2), .val (.int P3), .val (.int P4), .val (.int ((((P0 &&& (1 : Int32)) + ((P0 >>> ((1 : Int32) &&& 31)) &&& (1 : Int32))) + ((P0 >>> ((2 : Int32) &&& 31)) &&& (1 : Int32))) + ((P0 >>> ((3 : Int32) &&& 31)) &&& (1 : Int32)))), .val (.ref b195), .val (.int ((0 : Int32) + (1 : Int32)))] [])) _
        refine XS.aload X198.here hx rfl (hb hby d1_53) rfl rfl ?_
        show Steps p.tables e below (T198.setTop (mkF m 55 #[.val (.int P0), .val (.int P1), .val (.int P2), .val (.int P3), .val (.int P4), .val (.int ((((P0 &&& (1 : Int32)) + ((P0 >>> ((1 : Int32) &&& 31)) &&& (1 : Int32))) + ((P0 >>> ((2 : Int32) &&& 31)) &&& (1 : Int32))) + ((P0 >>> ((3 : Int32) &&& 31)) &&& (1 : Int32)))), .val (.ref b195), .val (.int ((0 : Int32) + (1 : Int32)))] [(.ref b195)])) _
        refine XS.iload X198.here hx rfl (hb hby d1_55) rfl ?_
        show Steps p.tables e below (T198.setTop (mkF m 57 #[.val (.int P0), .val (.int P1), .val (.int P2), .val (.int P3), .val (.int P4), .val (.int ((((P0 &&& (1 : Int32)) + ((P0 >>> ((1 : Int32) &&& 31)) &&& (1 : Int32))) + ((P0 >>> ((2 : Int32) &&& 31)) &&& (1 : Int32))) + ((P0 >>> ((3 : Int32) &&& 31)) &&& (1 : Int32)))), .val (.ref b195), .val (.int ((0 : Int32) + (1 : Int32)))] [(.int ((0 : Int32) + (1 : Int32))), (.ref b195)])) _
        refine XS.iloadN X198.here hx rfl (hb hby d1_57) rfl ?_
        show Steps p.tables e below (T198.setTop (mkF m 58 #[.val (.int P0), .val (.int P1), .val (.int P2), .val (.int P3), .val (.int P4), .val (.int ((((P0 &&& (1 : Int32)) + ((P0 >>> ((1 : Int32) &&& 31)) &&& (1 : Int32))) + ((P0 >>> ((2 : Int32) &&& 31)) &&& (1 : Int32))) + ((P0 >>> ((3 : Int32) &&& 31)) &&& (1 : Int32)))), .val (.ref b195), .val (.int ((0 : Int32) + (1 : Int32)))] [(.int P2), (.int ((0 : Int32) + (1 : Int32))), (.ref b195)])) _
        refine st201 _ ?_
        show Steps p.tables e below (T201.setTop (mkF m 59 #[.val (.int P0), .val (.int P1), .val (.int P2), .val (.int P3), .val (.int P4), .val (.int ((((P0 &&& (1 : Int32)) + ((P0 >>> ((1 : Int32) &&& 31)) &&& (1 : Int32))) + ((P0 >>> ((2 : Int32) &&& 31)) &&& (1 : Int32))) + ((P0 >>> ((3 : Int32) &&& 31)) &&& (1 : Int32)))), .val (.ref b195), .val (.int ((0 : Int32) + (1 : Int32)))] [])) _
        refine XS.iinc X201.here hx rfl (hb hby d1_59) rfl (l' := #[.val (.int P0), .val (.int P1), .val (.int P2), .val (.int P3), .val (.int P4), .val (.int ((((P0 &&& (1 : Int32)) + ((P0 >>> ((1 : Int32) &&& 31)) &&& (1 : Int32))) + ((P0 >>> ((2 : Int32) &&& 31)) &&& (1 : Int32))) + ((P0 >>> ((3 : Int32) &&& 31)) &&& (1 : Int32)))), .val (.ref b195), .val (.int (((0 : Int32) + (1 : Int32)) + (1 : Int32)))]) rfl ?_
        show Steps p.tables e below (T201.setTop (mkF m 62 #[.val (.int P0), .val (.int P1), .val (.int P2), .val (.int P3), .val (.int P4), .val (.int ((((P0 &&& (1 : Int32)) + ((P0 >>> ((1 : Int32) &&& 31)) &&& (1 : Int32))) + ((P0 >>> ((2 : Int32) &&& 31)) &&& (1 : Int32))) + ((P0 >>> ((3 : Int32) &&& 31)) &&& (1 : Int32)))), .val (.ref b195), .val (.int (((0 : Int32) + (1 : Int32)) + (1 : Int32)))] [])) _
        refine XS.iloadN X201.here hx rfl (hb hby d1_62) rfl ?_
        show Steps p.tables e below (T201.setTop (mkF m 63 #[.val (.int P0), .val (.int P1), .val (.int P2), .val (.int P3), .val (.int P4), .val (.int ((((P0 &&& (1 : Int32)) + ((P0 >>> ((1 : Int32) &&& 31)) &&& (1 : Int32))) + ((P0 >>> ((2 : Int32) &&& 31)) &&& (1 : Int32))) + ((P0 >>> ((3 : Int32) &&& 31)) &&& (1 : Int32)))), .val (.ref b195), .val (.int (((0 : Int32) + (1 : Int32)) + (1 : Int32)))] [(.int P0)])) _
        refine XS.iconst X201.here hx rfl (hb hby d1_63) ?_
        show Steps p.tables e below (T201.setTop (mkF m 64 #[.val (.int P0), .val (.int P1), .val (.int P2), .val (.int P3), .val (.int P4), .val (.int ((((P0 &&& (1 : Int32)) + ((P0 >>> ((1 : Int32) &&& 31)) &&& (1 : Int32))) + ((P0 >>> ((2 : Int32) &&& 31)) &&& (1 : Int32))) + ((P0 >>> ((3 : Int32) &&& 31)) &&& (1 : Int32)))), .val (.ref b195), .val (.int (((0 : Int32) + (1 : Int32)) + (1 : Int32)))] [(.int (4 : Int32)), (.int P0)])) _
        refine XS.iand X201.here hx rfl (hb hby d1_64) rfl ?_
        show Steps p.tables e below (T201.setTop (mkF m 65 #[.val (.int P0), .val (.int P1), .val (.int P2), .val (.int P3), .val (.int P4), .val (.int ((((P0 &&& (1 : Int32)) + ((P0 >>> ((1 : Int32) &&& 31)) &&& (1 : Int32))) + ((P0 >>> ((2 : Int32) &&& 31)) &&& (1 : Int32))) + ((P0 >>> ((3 : Int32) &&& 31)) &&& (1 : Int32)))), .val (.ref b195), .val (.int (((0 : Int32) + (1 : Int32)) + (1 : Int32)))] [(.int (P0 &&& (4 : Int32)))])) _
        refine XS.ifYes X201.here hx rfl (pc0 := 65) (pc' := 77) rfl (hb hby d1_65) rfl ((if0 _ _).trans (teq (show (P0 &&& (4 : Int32)) = (0 : Int32) from (by first | decide | (rw [hk]; decide)))).1) (by decide) (by decide) ?_
        show Steps p.tables e below (T201.setTop (mkF m 77 #[.val (.int P0), .val (.int P1), .val (.int P2), .val (.int P3), .val (.int P4), .val (.int ((((P0 &&& (1 : Int32)) + ((P0 >>> ((1 : Int32) &&& 31)) &&& (1 : Int32))) + ((P0 >>> ((2 : Int32) &&& 31)) &&& (1 : Int32))) + ((P0 >>> ((3 : Int32) &&& 31)) &&& (1 : Int32)))), .val (.ref b195), .val (.int (((0 : Int32) + (1 : Int32)) + (1 : Int32)))] [])) _
        refine XS.iloadN X201.here hx rfl (hb hby d1_77) rfl ?_
        show Steps p.tables e below (T201.setTop (mkF m 78 #[.val (.int P0), .val (.int P1), .val (.int P2), .val (.int P3), .val (.int P4), .val (.int ((((P0 &&& (1 : Int32)) + ((P0 >>> ((1 : Int32) &&& 31)) &&& (1 : Int32))) + ((P0 >>> ((2 : Int32) &&& 31)) &&& (1 : Int32))) + ((P0 >>> ((3 : Int32) &&& 31)) &&& (1 : Int32)))), .val (.ref b195), .val (.int (((0 : Int32) + (1 : Int32)) + (1 : Int32)))] [(.int P0)])) _
        refine XS.bipush X201.here hx rfl (hb hby d1_78) ?_
        show Steps p.tables e below (T201.setTop (mkF m 80 #[.val (.int P0), .val (.int P1), .val (.int P2), .val (.int P3), .val (.int P4), .val (.int ((((P0 &&& (1 : Int32)) + ((P0 >>> ((1 : Int32) &&& 31)) &&& (1 : Int32))) + ((P0 >>> ((2 : Int32) &&& 31)) &&& (1 : Int32))) + ((P0 >>> ((3 : Int32) &&& 31)) &&& (1 : Int32)))), .val (.ref b195), .val (.int (((0 : Int32) + (1 : Int32)) + (1 : Int32)))] [(.int (8 : Int32)), (.int P0)])) _
        refine XS.iand X201.here hx rfl (hb hby d1_80) rfl ?_
        show Steps p.tables e below (T201.setTop (mkF m 81 #[.val (.int P0), .val (.int P1), .val (.int P2), .val (.int P3), .val (.int P4), .val (.int ((((P0 &&& (1 : Int32)) + ((P0 >>> ((1 : Int32) &&& 31)) &&& (1 : Int32))) + ((P0 >>> ((2 : Int32) &&& 31)) &&& (1 : Int32))) + ((P0 >>> ((3 : Int32) &&& 31)) &&& (1 : Int32)))), .val (.ref b195), .val (.int (((0 : Int32) + (1 : Int32)) + (1 : Int32)))] [(.int (P0 &&& (8 : Int32)))])) _
        refine XS.ifNo X201.here hx rfl (hb hby d1_81) rfl ((if0 _ _).trans (feq (show ¬ ((P0 &&& (8 : Int32)) = (0 : Int32)) from (by first | decide | (rw [hk]; decide)))).1) ?_
        show Steps p.tables e below (T201.setTop (mkF m 84 #[.val (.int P0), .val (.int P1), .val (.int P2), .val (.int P3), .val (.int P4), .val (.int ((((P0 &&& (1 : Int32)) + ((P0 >>> ((1 : Int32) &&& 31)) &&& (1 : Int32))) + ((P0 >>> ((2 : Int32) &&& 31)) &&& (1 : Int32))) + ((P0 >>> ((3 : Int32) &&& 31)) &&& (1 : Int32)))), .val (.ref b195), .val (.int (((0 : Int32) + (1 : Int32)) + (1 : Int32)))] [])) _
        refine XS.aload X201.here hx rfl (hb hby d1_84) rfl rfl ?_
        show Steps p.tables e below (T201.setTop (mkF m 86 #[.val (.int P0), .val (.int P1), .val (.int P2), .val (.int P3), .val (.int P4), .val (.int ((((P0 &&& (1 : Int32)) + ((P0 >>> ((1 : Int32) &&& 31)) &&& (1 : Int32))) + ((P0 >>> ((2 : Int32) &&& 31)) &&& (1 : Int32))) + ((P0 >>> ((3 : Int32) &&& 31)) &&& (1 : Int32)))), .val (.ref b195), .val (.int (((0 : Int32) + (1 : Int32)) + (1 : Int32)))] [(.ref b195)])) _
        refine XS.iload X201.here hx rfl (hb hby d1_86) rfl ?_
        show Steps p.tables e below (T201.setTop (mkF m 88 #[.val (.int P0), .val (.int P1), .val (.int P2), .val (.int P3), .val (.int P4), .val (.int ((((P0 &&& (1 : Int32)) + ((P0 >>> ((1 : Int32) &&& 31)) &&& (1 : Int32))) + ((P0 >>> ((2 : Int32) &&& 31)) &&& (1 : Int32))) + ((P0 >>> ((3 : Int32) &&& 31)) &&& (1 : Int32)))), .val (.ref b195), .val (.int (((0 : Int32) + (1 : Int32)) + (1 : Int32)))] [(.int (((0 : Int32) + (1 : Int32)) + (1 : Int32))), (.ref b195)])) _
        refine XS.iload X201.here hx rfl (hb hby d1_88) rfl ?_
        show Steps p.tables e below (T201.setTop (mkF m 90 #[.val (.int P0), .val (.int P1), .val (.int P2), .val (.int P3), .val (.int P4), .val (.int ((((P0 &&& (1 : Int32)) + ((P0 >>> ((1 : Int32) &&& 31)) &&& (1 : Int32))) + ((P0 >>> ((2 : Int32) &&& 31)) &&& (1 : Int32))) + ((P0 >>> ((3 : Int32) &&& 31)) &&& (1 : Int32)))), .val (.ref b195), .val (.int (((0 : Int32) + (1 : Int32)) + (1 : Int32)))] [(.int P4), (.int (((0 : Int32) + (1 : Int32)) + (1 : Int32))), (.ref b195)])) _
        refine st204 _ ?_
        show Steps p.tables e below (T204.setTop (mkF m 91 #[.val (.int P0), .val (.int P1), .val (.int P2), .val (.int P3), .val (.int P4), .val (.int ((((P0 &&& (1 : Int32)) + ((P0 >>> ((1 : Int32) &&& 31)) &&& (1 : Int32))) + ((P0 >>> ((2 : Int32) &&& 31)) &&& (1 : Int32))) + ((P0 >>> ((3 : Int32) &&& 31)) &&& (1 : Int32)))), .val (.ref b195), .val (.int (((0 : Int32) + (1 : Int32)) + (1 : Int32)))] [])) _
        refine XS.iinc X204.here hx rfl (hb hby d1_91) rfl (l' := #[.val (.int P0), .val (.int P1), .val (.int P2), .val (.int P3), .val (.int P4), .val (.int ((((P0 &&& (1 : Int32)) + ((P0 >>> ((1 : Int32) &&& 31)) &&& (1 : Int32))) + ((P0 >>> ((2 : Int32) &&& 31)) &&& (1 : Int32))) + ((P0 >>> ((3 : Int32) &&& 31)) &&& (1 : Int32)))), .val (.ref b195), .val (.int ((((0 : Int32) + (1 : Int32)) + (1 : Int32)) + (1 : Int32)))]) rfl ?_
        show Steps p.tables e below (T204.setTop (mkF m 94 #[.val (.int P0), .val (.int P1), .val (.int P2), .val (.int P3), .val (.int P4), .val (.int ((((P0 &&& (1 : Int32)) + ((P0 >>> ((1 : Int32) &&& 31)) &&& (1 : Int32))) + ((P0 >>> ((2 : Int32) &&& 31)) &&& (1 : Int32))) + ((P0 >>> ((3 : Int32) &&& 31)) &&& (1 : Int32)))), .val (.ref b195), .val (.int ((((0 : Int32) + (1 : Int32)) + (1 : Int32)) + (1 : Int32)))] [])) _
        refine XS.aload X204.here hx rfl (hb hby d1_94) rfl rfl ?_
        exact kt)
    have hsel : (own_sel P0 P1 P2 P3 P4).map Value.int = [(.int P1), (.int P2), (.int P4)] := by rw [hk, own_sel11]; rfl
    have c207 : Exa Z h204 b195 "[I" := (((EX195.wr W198).wr W201).wr W204)
    obtain ⟨fs, hr, hrun, hended, hW, hsame⟩ := X204.leave (v := some (.ref b195)) (fun h => by rw [Bd.returns] at h; cases h)
    refine ⟨_, _, pre206 _ ?_, hrun, hended, _, _, rfl, ?_, ⟨_, rfl⟩, hW, hsame.mono (by decide) (by decide)⟩
    · show Steps p.tables e below (T204.setTop (mkF m 96 #[.val (.int P0), .val (.int P1), .val (.int P2), .val (.int P3), .val (.int P4), .val (.int ((((P0 &&& (1 : Int32)) + ((P0 >>> ((1 : Int32) &&& 31)) &&& (1 : Int32))) + ((P0 >>> ((2 : Int32) &&& 31)) &&& (1 : Int32))) + ((P0 >>> ((3 : Int32) &&& 31)) &&& (1 : Int32)))), .val (.ref b195), .val (.int ((((0 : Int32) + (1 : Int32)) + (1 : Int32)) + (1 : Int32)))] [(.ref b195)])) _
      exact retOut X204 hx Bd.returns rfl (Or.inr (Or.inr (Or.inr (Or.inr ⟨rfl, rfl, rfl⟩)))) (hb hby d1_96) hr
    · show Q1 Z P0 P1 P2 P3 P4 h0 n0 _ T204.heap _
      rw [e204]
      exact ⟨b195, k195, rfl, N204, K_205, sz_b195, c207, (by rw [hsel]; exact V204)⟩
  · obtain ⟨T208, h208, k208, X208, e208, E208, A208, EX208, st208⟩ := newPE X0 hx hZ (hw _ (List.mem_of_getElem? (i := 8) rfl)) e0 (g := (mkF m 25 #[.val (.int P0), .val (.int P1), .val (.int P2), .val (.int P3), .val (.int P4), .val (.int ((((P0 &&& (1 : Int32)) + ((P0 >>> ((1 : Int32) &&& 31)) &&& (1 : Int32))) + ((P0 >>> ((2 : Int32) &&& 31)) &&& (1 : Int32))) + ((P0 >>> ((3 : Int32) &&& 31)) &&& (1 : Int32)))), .unset, .unset] [(.int ((((P0 &&& (1 : Int32)) + ((P0 >>> ((1 : Int32) &&& 31)) &&& (1 : Int32))) + ((P0 >>> ((2 : Int32) &&& 31)) &&& (1 : Int32))) + ((P0 >>> ((3 : Int32) &&& 31)) &&& (1 : Int32))))])) rfl (hb hby d1_25) rfl (by first | decide | (rw [hk]; decide)) (cap := 4) (by first | decide | (rw [hk]; decide)) (by decide) (by decide) (by decide) (ad := "[I") (by decide)
    obtain ⟨b208, q208⟩ : ∃ z, z = h0.size := ⟨_, rfl⟩
    rw [← q208] at A208 EX208 st208
    have g_b208 : n0 ≤ b208 := Nat.le_trans Z0 (Nat.le_of_eq q208.symm)
    have sz_b208 : h0.size ≤ b208 := Nat.le_trans K_0.1 (Nat.le_of_eq q208.symm)
    have Z209 : n0 ≤ h208.size := Nat.le_trans Z0 E208.1
    have K_209 : Keep h0 h208 [] := K_0.ext E208
    have V208 : Arv Z h208 b208 k208 .int ((((P0 &&& (1 : Int32)) + ((P0 >>> ((1 : Int32) &&& 31)) &&& (1 : Int32))) + ((P0 >>> ((2 : Int32) &&& 31)) &&& (1 : Int32))) + ((P0 >>> ((3 : Int32) &&& 31)) &&& (1 : Int32))) [(.int (0 : Int32)), (.int (0 : Int32))] (.int (0 : Int32)) := (Arv.new A208 (by first | decide | (rw [hk]; decide))).pad (pad_rep [] (.int (0 : Int32)) 2)
    obtain ⟨cl210, Ar210, q210, S210, N_210, H210, G210⟩ := id V208
    have hin210 : ¬ ((0 : Int32) < 0 ∨ cl210.slots.size ≤ ((0 : Int32)).toNatClampNeg) := inb_of S210 ⟨by first | decide | (rw [hk]; decide), by first | decide | (rw [hk]; decide)⟩
    obtain ⟨T211, h211, X211, e211, W211, st211⟩ := stI X208 hx hZ e208 Ar210 (j := (0 : Int32)) hin210 (g := (mkF m 73 #[.val (.int P0), .val (.int P1), .val (.int P2), .val (.int P3), .val (.int P4), .val (.int ((((P0 &&& (1 : Int32)) + ((P0 >>> ((1 : Int32) &&& 31)) &&& (1 : Int32))) + ((P0 >>> ((2 : Int32) &&& 31)) &&& (1 : Int32))) + ((P0 >>> ((3 : Int32) &&& 31)) &&& (1 : Int32)))), .val (.ref b208), .val (.int (0 : Int32))] [(.int P3), (.int (0 : Int32)), (.ref b208)])) rfl rfl (hb hby d1_73)
    have Z212 : n0 ≤ h211.size := Nat.le_trans Z209 (Nat.le_of_eq W211.size.symm)
    have K_212 : Keep h0 h211 [] := K_209.wr W211 (Or.inr sz_b208)
    have V211 : Arv Z h211 b208 k208 .int ((((P0 &&& (1 : Int32)) + ((P0 >>> ((1 : Int32) &&& 31)) &&& (1 : Int32))) + ((P0 >>> ((2 : Int32) &&& 31)) &&& (1 : Int32))) + ((P0 >>> ((3 : Int32) &&& 31)) &&& (1 : Int32))) [(.int P3), (.int (0 : Int32))] (.int (0 : Int32)) := Arv.set Ar210 q210 S210 N_210 H210 G210 rfl W211 0 rfl (Nat.le_of_ble_eq_true rfl)
    have N211 := Fr.snoc X211 N0 g_b208
    obtain ⟨cl213, Ar213, q213, S213, N_213, H213, G213⟩ := id V211
    have hin213 : ¬ (((0 : Int32) + (1 : Int32)) < 0 ∨ cl213.slots.size ≤ (((0 : Int32) + (1 : Int32))).toNatClampNeg) := inb_of S213 ⟨by first | decide | (rw [hk]; decide), by first | decide | (rw [hk]; decide)⟩
    obtain ⟨T214, h214, X214, e214, W214, st214⟩ := stI X211 hx hZ e211 Ar213 (j := ((0 : Int32) + (1 : Int32))) hin213 (g := (mkF m 90 #[.val (.int P0), .val (.int P1), .val (.int P2), .val (.int P3), .val (.int P4), .val (.int ((((P0 &&& (1 : Int32)) + ((P0 >>> ((1 : Int32) &&& 31)) &&& (1 : Int32))) + ((P0 >>> ((2 : Int32) &&& 31)) &&& (1 : Int32))) + ((P0 >>> ((3 : Int32) &&& 31)) &&& (1 : Int32)))), .val (.ref b208), .val (.int ((0 : Int32) + (1 : Int32)))] [(.int P4), (.int ((0 : Int32) + (1 : Int32))), (.ref b208)])) rfl rfl (hb hby d1_90)
    have Z215 : n0 ≤ h214.size := Nat.le_trans Z212 (Nat.le_of_eq W214.size.symm)
    have K_215 : Keep h0 h214 [] := K_212.wr W214 (Or.inr sz_b208)
    have V214 : Arv Z h214 b208 k208 .int ((((P0 &&& (1 : Int32)) + ((P0 >>> ((1 : Int32) &&& 31)) &&& (1 : Int32))) + ((P0 >>> ((2 : Int32) &&& 31)) &&& (1 : Int32))) + ((P0 >>> ((3 : Int32) &&& 31)) &&& (1 : Int32))) [(.int P3), (.int P4)] (.int (0 : Int32)) := Arv.set Ar213 q213 S213 N_213 H213 G213 rfl W214 1 (by decide) (Nat.le_of_ble_eq_true rfl)
    have N214 := Fr.snoc X214 N211 g_b208
    have pre216 : ∀ t, Steps p.tables e below (T214.setTop (mkF m 96 #[.val (.int P0), .val (.int P1), .val (.int P2), .val (.int P3), .val (.int P4), .val (.int ((((P0 &&& (1 : Int32)) + ((P0 >>> ((1 : Int32) &&& 31)) &&& (1 : Int32))) + ((P0 >>> ((2 : Int32) &&& 31)) &&& (1 : Int32))) + ((P0 >>> ((3 : Int32) &&& 31)) &&& (1 : Int32)))), .val (.ref b208), .val (.int (((0 : Int32) + (1 : Int32)) + (1 : Int32)))] [(.ref b208)])) t → Steps p.tables e below (s₁.setTop (entryFrame m #[(.int P0), (.int P1), (.int P2), (.int P3), (.int P4)] 8)) t := fun t kt => pre0 t (by
        show Steps p.tables e below (s₁.setTop (mkF m 0 #[.val (.int P0), .val (.int P1), .val (.int P2), .val (.int P3), .val (.int P4), .unset, .unset, .unset] [])) _
        refine XS.iloadN X0.here hx rfl (hb hby d1_0) rfl ?_
        show Steps p.tables e below (s₁.setTop (mkF m 1 #[.val (.int P0), .val (.int P1), .val (.int P2), .val (.int P3), .val (.int P4), .unset, .unset, .unset] [(.int P0)])) _
        refine XS.iconst X0.here hx rfl (hb hby d1_1) ?_
        show Steps p.tables e below (s₁.setTop (mkF m 2 #[.val (.int P0), .val (.int P1), .val (.int P2), .val (.int P3), .val (.int P4), .unset, .unset, .unset] [(.int (1 : Int32)), (.int P0)])) _
        refine XS.iand X0.here hx rfl (hb hby d1_2) rfl ?_
        show Steps p.tables e below (s₁.setTop (mkF m 3 #[.val (.int P0), .val (.int P1), .val (.int P2), .val (.int P3), .val (.int P4), .unset, .unset, .unset] [(.int (P0 &&& (1 : Int32)))])) _
        refine XS.iloadN X0.here hx rfl (hb hby d1_3) rfl ?_
        show Steps p.tables e below (s₁.setTop (mkF m 4 #[.val (.int P0), .val (.int P1), .val (.int P2), .val (.int P3), .val (.int P4), .unset, .unset, .unset] [(.int P0), (.int (P0 &&& (1 : Int32)))])) _
        refine XS.iconst X0.here hx rfl (hb hby d1_4) ?_
        show Steps p.tables e below (s₁.setTop (mkF m 5 #[.val (.int P0), .val (.int P1), .val (.int P2), .val (.int P3), .val (.int P4), .unset, .unset, .unset] [(.int (1 : Int32)), (.int P0), (.int (P0 &&& (1 : Int32)))])) _
        refine XS.ishr X0.here hx rfl (hb hby d1_5) rfl ?_
        show Steps p.tables e below (s₁.setTop (mkF m 6 #[.val (.int P0), .val (.int P1), .val (.int P2), .val (.int P3), .val (.int P4), .unset, .unset, .unset] [(.int (P0 >>> ((1 : Int32) &&& 31))), (.int (P0 &&& (1 : Int32)))])) _
        refine XS.iconst X0.here hx rfl (hb hby d1_6) ?_
        show Steps p.tables e below (s₁.setTop (mkF m 7 #[.val (.int P0), .val (.int P1), .val (.int P2), .val (.int P3), .val (.int P4), .unset, .unset, .unset] [(.int (1 : Int32)), (.int (P0 >>> ((1 : Int32) &&& 31))), (.int (P0 &&& (1 : Int32)))])) _
        refine XS.iand X0.here hx rfl (hb hby d1_7) rfl ?_
        show Steps p.tables e below (s₁.setTop (mkF m 8 #[.val (.int P0), .val (.int P1), .val (.int P2), .val (.int P3), .val (.int P4), .unset, .unset, .unset] [(.int ((P0 >>> ((1 : Int32) &&& 31)) &&& (1 : Int32))), (.int (P0 &&& (1 : Int32)))])) _
        refine XS.iadd X0.here hx rfl (hb hby d1_8) rfl ?_
        show Steps p.tables e below (s₁.setTop (mkF m 9 #[.val (.int P0), .val (.int P1), .val (.int P2), .val (.int P3), .val (.int P4), .unset, .unset, .unset] [(.int ((P0 &&& (1 : Int32)) + ((P0 >>> ((1 : Int32) &&& 31)) &&& (1 : Int32))))])) _
        refine XS.iloadN X0.here hx rfl (hb hby d1_9) rfl ?_
        show Steps p.tables e below (s₁.setTop (mkF m 10 #[.val (.int P0), .val (.int P1), .val (.int P2), .val (.int P3), .val (.int P4), .unset, .unset, .unset] [(.int P0), (.int ((P0 &&& (1 : Int32)) + ((P0 >>> ((1 : Int32) &&& 31)) &&& (1 : Int32))))])) _
        refine XS.iconst X0.here hx rfl (hb hby d1_10) ?_
        show Steps p.tables e below (s₁.setTop (mkF m 11 #[.val (.int P0), .val (.int P1), .val (.int P2), .val (.int P3), .val (.int P4), .unset, .unset, .unset] [(.int (2 : Int32)), (.int P0), (.int ((P0 &&& (1 : Int32)) + ((P0 >>> ((1 : Int32) &&& 31)) &&& (1 : Int32))))])) _
        refine XS.ishr X0.here hx rfl (hb hby d1_11) rfl ?_
        show Steps p.tables e below (s₁.setTop (mkF m 12 #[.val (.int P0), .val (.int P1), .val (.int P2), .val (.int P3), .val (.int P4), .unset, .unset, .unset] [(.int (P0 >>> ((2 : Int32) &&& 31))), (.int ((P0 &&& (1 : Int32)) + ((P0 >>> ((1 : Int32) &&& 31)) &&& (1 : Int32))))])) _
        refine XS.iconst X0.here hx rfl (hb hby d1_12) ?_
        show Steps p.tables e below (s₁.setTop (mkF m 13 #[.val (.int P0), .val (.int P1), .val (.int P2), .val (.int P3), .val (.int P4), .unset, .unset, .unset] [(.int (1 : Int32)), (.int (P0 >>> ((2 : Int32) &&& 31))), (.int ((P0 &&& (1 : Int32)) + ((P0 >>> ((1 : Int32) &&& 31)) &&& (1 : Int32))))])) _
        refine XS.iand X0.here hx rfl (hb hby d1_13) rfl ?_
        show Steps p.tables e below (s₁.setTop (mkF m 14 #[.val (.int P0), .val (.int P1), .val (.int P2), .val (.int P3), .val (.int P4), .unset, .unset, .unset] [(.int ((P0 >>> ((2 : Int32) &&& 31)) &&& (1 : Int32))), (.int ((P0 &&& (1 : Int32)) + ((P0 >>> ((1 : Int32) &&& 31)) &&& (1 : Int32))))])) _
        refine XS.iadd X0.here hx rfl (hb hby d1_14) rfl ?_
        show Steps p.tables e below (s₁.setTop (mkF m 15 #[.val (.int P0), .val (.int P1), .val (.int P2), .val (.int P3), .val (.int P4), .unset, .unset, .unset] [(.int (((P0 &&& (1 : Int32)) + ((P0 >>> ((1 : Int32) &&& 31)) &&& (1 : Int32))) + ((P0 >>> ((2 : Int32) &&& 31)) &&& (1 : Int32))))])) _
        refine XS.iloadN X0.here hx rfl (hb hby d1_15) rfl ?_
        show Steps p.tables e below (s₁.setTop (mkF m 16 #[.val (.int P0), .val (.int P1), .val (.int P2), .val (.int P3), .val (.int P4), .unset, .unset, .unset] [(.int P0), (.int (((P0 &&& (1 : Int32)) + ((P0 >>> ((1 : Int32) &&& 31)) &&& (1 : Int32))) + ((P0 >>> ((2 : Int32) &&& 31)) &&& (1 : Int32))))])) _
        refine XS.iconst X0.here hx rfl (hb hby d1_16) ?_
        show Steps p.tables e below (s₁.setTop (mkF m 17 #[.val (.int P0), .val (.int P1), .val (.int P2), .val (.int P3), .val (.int P4), .unset, .unset, .unset] [(.int (3 : Int32)), (.int P0), (.int (((P0 &&& (1 : Int32)) + ((P0 >>> ((1 : Int32) &&& 31)) &&& (1 : Int32))) + ((P0 >>> ((2 : Int32) &&& 31)) &&& (1 : Int32))))])) _
        refine XS.ishr X0.here hx rfl (hb hby d1_17) rfl ?_
        show Steps p.tables e below (s₁.setTop (mkF m 18 #[.val (.int P0), .val (.int P1), .val (.int P2), .val (.int P3), .val (.int P4), .unset, .unset, .unset] [(.int (P0 >>> ((3 : Int32) &&& 31))), (.int (((P0 &&& (1 : Int32)) + ((P0 >>> ((1 : Int32) &&& 31)) &&& (1 : Int32))) + ((P0 >>> ((2 : Int32) &&& 31)) &&& (1 : Int32))))])) _
        refine XS.iconst X0.here hx rfl (hb hby d1_18) ?_
        show Steps p.tables e below (s₁.setTop (mkF m 19 #[.val (.int P0), .val (.int P1), .val (.int P2), .val (.int P3), .val (.int P4), .unset, .unset, .unset] [(.int (1 : Int32)), (.int (P0 >>> ((3 : Int32) &&& 31))), (.int (((P0 &&& (1 : Int32)) + ((P0 >>> ((1 : Int32) &&& 31)) &&& (1 : Int32))) + ((P0 >>> ((2 : Int32) &&& 31)) &&& (1 : Int32))))])) _
        refine XS.iand X0.here hx rfl (hb hby d1_19) rfl ?_
        show Steps p.tables e below (s₁.setTop (mkF m 20 #[.val (.int P0), .val (.int P1), .val (.int P2), .val (.int P3), .val (.int P4), .unset, .unset, .unset] [(.int ((P0 >>> ((3 : Int32) &&& 31)) &&& (1 : Int32))), (.int (((P0 &&& (1 : Int32)) + ((P0 >>> ((1 : Int32) &&& 31)) &&& (1 : Int32))) + ((P0 >>> ((2 : Int32) &&& 31)) &&& (1 : Int32))))])) _
        refine XS.iadd X0.here hx rfl (hb hby d1_20) rfl ?_
        show Steps p.tables e below (s₁.setTop (mkF m 21 #[.val (.int P0), .val (.int P1), .val (.int P2), .val (.int P3), .val (.int P4), .unset, .unset, .unset] [(.int ((((P0 &&& (1 : Int32)) + ((P0 >>> ((1 : Int32) &&& 31)) &&& (1 : Int32))) + ((P0 >>> ((2 : Int32) &&& 31)) &&& (1 : Int32))) + ((P0 >>> ((3 : Int32) &&& 31)) &&& (1 : Int32))))])) _
        refine XS.istore X0.here hx rfl (hb hby d1_21) rfl (l' := #[.val (.int P0), .val (.int P1), .val (.int P2), .val (.int P3), .val (.int P4), .val (.int ((((P0 &&& (1 : Int32)) + ((P0 >>> ((1 : Int32) &&& 31)) &&& (1 : Int32))) + ((P0 >>> ((2 : Int32) &&& 31)) &&& (1 : Int32))) + ((P0 >>> ((3 : Int32) &&& 31)) &&& (1 : Int32)))), .unset, .unset]) rfl ?_
        show Steps p.tables e below (s₁.setTop (mkF m 23 #[.val (.int P0), .val (.int P1), .val (.int P2), .val (.int P3), .val (.int P4), .val (.int ((((P0 &&& (1 : Int32)) + ((P0 >>> ((1 : Int32) &&& 31)) &&& (1 : Int32))) + ((P0 >>> ((2 : Int32) &&& 31)) &&& (1 : Int32))) + ((P0 >>> ((3 : Int32) &&& 31)) &&& (1 : Int32)))), .unset, .unset] [])) _
        refine XS.iload X0.here hx rfl (hb hby d1_23) rfl ?_
        show Steps p.tables e below (s₁.setTop (mkF m 25 #[.val (.int P0), .val (.int P1), .val (.int P2), .val (.int P3), .val (.int P4), .val (.int ((((P0 &&& (1 : Int32)) + ((P0 >>> ((1 : Int32) &&& 31)) &&& (1 : Int32))) + ((P0 >>> ((2 : Int32) &&& 31)) &&& (1 : Int32))) + ((P0 >>> ((3 : Int32) &&& 31)) &&& (1 : Int32)))), .unset, .unset] [(.int ((((P0 &&& (1 : Int32)) + ((P0 >>> ((1 : Int32) &&& 31)) &&& (1 : Int32))) + ((P0 >>> ((2 : Int32) &&& 31)) &&& (1 : Int32))) + ((P0 >>> ((3 : Int32) &&& 31)) &&& (1 : Int32))))])) _
        refine st208 _ ?_
        show Steps p.tables e below (T208.setTop (mkF m 27 #[.val (.int P0), .val (.int P1), .val (.int P2), .val (.int P3), .val (.int P4), .val (.int ((((P0 &&& (1 : Int32)) + ((P0 >>> ((1 : Int32) &&& 31)) &&& (1 : Int32))) + ((P0 >>> ((2 : Int32) &&& 31)) &&& (1 : Int32))) + ((P0 >>> ((3 : Int32) &&& 31)) &&& (1 : Int32)))), .unset, .unset] [(.ref b208)])) _
        refine XS.astore X208.here hx rfl (hb hby d1_27) rfl rfl (l' := #[.val (.int P0), .val (.int P1), .val (.int P2), .val (.int P3), .val (.int P4), .val (.int ((((P0 &&& (1 : Int32)) + ((P0 >>> ((1 : Int32) &&& 31)) &&& (1 : Int32))) + ((P0 >>> ((2 : Int32) &&& 31)) &&& (1 : Int32))) + ((P0 >>> ((3 : Int32) &&& 31)) &&& (1 : Int32)))), .val (.ref b208), .unset]) rfl ?_
        show Steps p.tables e below (T208.setTop (mkF m 29 #[.val (.int P0), .val (.int P1), .val (.int P2), .val (.int P3), .val (.int P4), .val (.int ((((P0 &&& (1 : Int32)) + ((P0 >>> ((1 : Int32) &&& 31)) &&& (1 : Int32))) + ((P0 >>> ((2 : Int32) &&& 31)) &&& (1 : Int32))) + ((P0 >>> ((3 : Int32) &&& 31)) &&& (1 : Int32)))), .val (.ref b208), .unset] [])) _
        refine XS.iconst X208.here hx rfl (hb hby d1_29) ?_
        show Steps p.tables e below (T208.setTop (mkF m 30 #[.val (.int P0), .val (.int P1), .val (.int P2), .val (.int P3), .val (.int P4), .val (.int ((((P0 &&& (1 : Int32)) + ((P0 >>> ((1 : Int32) &&& 31)) &&& (1 : Int32))) + ((P0 >>> ((2 : Int32) &&& 31)) &&& (1 : Int32))) + ((P0 >>> ((3 : Int32) &&& 31)) &&& (1 : Int32)))), .val (.ref b208), .unset] [(.int (0 : Int32))])) _
        refine XS.istore X208.here hx rfl (hb hby d1_30) rfl (l' := #[.val (.int P0), .val (.int P1), .val (.int P2), .val (.int P3), .val (.int P4), .val (.int ((((P0 &&& (1 : Int32)) + ((P0 >>> ((1 : Int32) &&& 31)) &&& (1 : Int32))) + ((P0 >>> ((2 : Int32) &&& 31)) &&& (1 : Int32))) + ((P0 >>> ((3 : Int32) &&& 31)) &&& (1 : Int32)))), .val (.ref b208), .val (.int (0 : Int32))]) rfl ?_
        show Steps p.tables e below (T208.setTop (mkF m 32 #[.val (.int P0), .val (.int P1), .val (.int P2), .val (.int P3), .val (.int P4), .val (.int ((((P0 &&& (1 : Int32)) + ((P0 >>> ((1 : Int32) &&& 31)) &&& (1 : Int32))) + ((P0 >>> ((2 : Int32) &&& 31)) &&& (1 : Int32))) + ((P0 >>> ((3 : Int32) &&& 31)) &&& (1 : Int32)))), .val (.ref b208), .val (.int (0 : Int32))] [])) _
        refine XS.iloadN X208.here hx rfl (hb hby d1_32) rfl ?_
        show Steps p.tables e below (T208.setTop (mkF m 33 #[.val (.int P0), .val (.int P1), .val (.int P2), .val (.int P3), .val (.int P4), .val (.int ((((P0 &&& (1 : Int32)) + ((P0 >>> ((1 : Int32) &&& 31)) &&& (1 : Int32))) + ((P0 >>> ((2 : Int32) &&& 31)) &&& (1 : Int32))) + ((P0 >>> ((3 : Int32) &&& 31)) &&& (1 : Int32)))), .val (.ref b208), .val (.int (0 : Int32))] [(.int P0)])) _
        refine XS.iconst X208.here hx rfl (hb hby d1_33) ?_
        show Steps p.tables e below (T208.setTop (mkF m 34 #[.val (.int P0), .val (.int P1), .val (.int P2), .val (.int P3), .val (.int P4), .val (.int ((((P0 &&& (1 : Int32)) + ((P0 >>> ((1 : Int32) &&& 31)) &&& (1 : Int32))) + ((P0 >>> ((2 : Int32) &&& 31)) &&& (1 : Int32))) + ((P0 >>> ((3 : Int32) &&& 31)) &&& (1 : Int32)))), .val (.ref b208), .val (.int (0 : Int32))] [(.int (1 : Int32)), (.int P0)])) _
        refine XS.iand X208.here hx rfl (hb hby d1_34) rfl ?_
        show Steps p.tables e below (T208.setTop (mkF m 35 #[.val (.int P0), .val (.int P1), .val (.int P2), .val (.int P3), .val (.int P4), .val (.int ((((P0 &&& (1 : Int32)) + ((P0 >>> ((1 : Int32) &&& 31)) &&& (1 : Int32))) + ((P0 >>> ((2 : Int32) &&& 31)) &&& (1 : Int32))) + ((P0 >>> ((3 : Int32) &&& 31)) &&& (1 : Int32)))), .val (.ref b208), .val (.int (0 : Int32))] [(.int (P0 &&& (1 : Int32)))])) _
        refine XS.ifYes X208.here hx rfl (pc0 := 35) (pc' := 47) rfl (hb hby d1_35) rfl ((if0 _ _).trans (teq (show (P0 &&& (1 : Int32)) = (0 : Int32) from (by first | decide | (rw [hk]; decide)))).1) (by decide) (by decide) ?_
        show Steps p.tables e below (T208.setTop (mkF m 47 #[.val (.int P0), .val (.int P1), .val (.int P2), .val (.int P3), .val (.int P4), .val (.int ((((P0 &&& (1 : Int32)) + ((P0 >>> ((1 : Int32) &&& 31)) &&& (1 : Int32))) + ((P0 >>> ((2 : Int32) &&& 31)) &&& (1 : Int32))) + ((P0 >>> ((3 : Int32) &&& 31)) &&& (1 : Int32)))), .val (.ref b208), .val (.int (0 : Int32))] [])) _
        refine XS.iloadN X208.here hx rfl (hb hby d1_47) rfl ?_
        show Steps p.tables e below (T208.setTop (mkF m 48 #[.val (.int P0), .val (.int P1), .val (.int P2), .val (.int P3), .val (.int P4), .val (.int ((((P0 &&& (1 : Int32)) + ((P0 >>> ((1 : Int32) &&& 31)) &&& (1 : Int32))) + ((P0 >>> ((2 : Int32) &&& 31)) &&& (1 : Int32))) + ((P0 >>> ((3 : Int32) &&& 31)) &&& (1 : Int32)))), .val (.ref b208), .val (.int (0 : Int32))] [(.int P0)])) _
        refine XS.iconst X208.here hx rfl (hb hby d1_48) ?_
        show Steps p.tables e below (T208.setTop (mkF m 49 #[.val (.int P0), .val (.int P1), .val (.int P2), .val (.int P3), .val (.int P4), .val (.int ((((P0 &&& (1 : Int32)) + ((P0 >>> ((1 : Int32) &&& 31)) &&& (1 : Int32))) + ((P0 >>> ((2 : Int32) &&& 31)) &&& (1 : Int32))) + ((P0 >>> ((3 : Int32) &&& 31)) &&& (1 : Int32)))), .val (.ref b208), .val (.int (0 : Int32))] [(.int (2 : Int32)), (.int P0)])) _
        refine XS.iand X208.here hx rfl (hb hby d1_49) rfl ?_
        show Steps p.tables e below (T208.setTop (mkF m 50 #[.val (.int P0), .val (.int P1), .val (.int P2), .val (.int P3), .val (.int P4), .val (.int ((((P0 &&& (1 : Int32)) + ((P0 >>> ((1 : Int32) &&& 31)) &&& (1 : Int32))) + ((P0 >>> ((2 : Int32) &&& 31)) &&& (1 : Int32))) + ((P0 >>> ((3 : Int32) &&& 31)) &&& (1 : Int32)))), .val (.ref b208), .val (.int (0 : Int32))] [(.int (P0 &&& (2 : Int32)))])) _
        refine XS.ifYes X208.here hx rfl (pc0 := 50) (pc' := 62) rfl (hb hby d1_50) rfl ((if0 _ _).trans (teq (show (P0 &&& (2 : Int32)) = (0 : Int32) from (by first | decide | (rw [hk]; decide)))).1) (by decide) (by decide) ?_
        show Steps p.tables e below (T208.setTop (mkF m 62 #[.val (.int P0), .val (.int P1), .val (.int P2), .val (.int P3), .val (.int P4), .val (.int ((((P0 &&& (1 : Int32)) + ((P0 >>> ((1 : Int32) &&& 31)) &&& (1 : Int32))) + ((P0 >>> ((2 : Int32) &&& 31)) &&& (1 : Int32))) + ((P0 >>> ((3 : Int32) &&& 31)) &&& (1 : Int32)))), .val (.ref b208), .val (.int (0 : Int32))] [])) _
        refine XS.iloadN X208.here hx rfl (hb hby d1_62) rfl ?_
        show Steps p.tables e below (T208.setTop (mkF m 63 #[.val (.int P0), .val (.int P1), .val (.int P2), .val (.int P3), .val (.int P4), .val (.int ((((P0 &&& (1 : Int32)) + ((P0 >>> ((1 : Int32) &&& 31)) &&& (1 : Int32))) + ((P0 >>> ((2 : Int32) &&& 31)) &&& (1 : Int32))) + ((P0 >>> ((3 : Int32) &&& 31)) &&& (1 : Int32)))), .val (.ref b208), .val (.int (0 : Int32))] [(.int P0)])) _
        refine XS.iconst X208.here hx rfl (hb hby d1_63) ?_
        show Steps p.tables e below (T208.setTop (mkF m 64 #[.val (.int P0), .val (.int P1), .val (.int P2), .val (.int P3), .val (.int P4), .val (.int ((((P0 &&& (1 : Int32)) + ((P0 >>> ((1 : Int32) &&& 31)) &&& (1 : Int32))) + ((P0 >>> ((2 : Int32) &&& 31)) &&& (1 : Int32))) + ((P0 >>> ((3 : Int32) &&& 31)) &&& (1 : Int32)))), .val (.ref b208), .val (.int (0 : Int32))] [(.int (4 : Int32)), (.int P0)])) _
        refine XS.iand X208.here hx rfl (hb hby d1_64) rfl ?_
        show Steps p.tables e below (T208.setTop (mkF m 65 #[.val (.int P0), .val (.int P1), .val (.int P2), .val (.int P3), .val (.int P4), .val (.int ((((P0 &&& (1 : Int32)) + ((P0 >>> ((1 : Int32) &&& 31)) &&& (1 : Int32))) + ((P0 >>> ((2 : Int32) &&& 31)) &&& (1 : Int32))) + ((P0 >>> ((3 : Int32) &&& 31)) &&& (1 : Int32)))), .val (.ref b208), .val (.int (0 : Int32))] [(.int (P0 &&& (4 : Int32)))])) _
        refine XS.ifNo X208.here hx rfl (hb hby d1_65) rfl ((if0 _ _).trans (feq (show ¬ ((P0 &&& (4 : Int32)) = (0 : Int32)) from (by first | decide | (rw [hk]; decide)))).1) ?_
        show Steps p.tables e below (T208.setTop (mkF m 68 #[.val (.int P0), .val (.int P1), .val (.int P2), .val (.int P3), .val (.int P4), .val (.int ((((P0 &&& (1 : Int32)) + ((P0 >>> ((1 : Int32) &&& 31)) &&& (1 : Int32))) + ((P0 >>> ((2 : Int32) &&& 31)) &&& (1 : Int32))) + ((P0 >>> ((3 : Int32) &&& 31)) &&& (1 : Int32)))), .val (.ref b208), .val (.int (0 : Int32))] [])) _
        refine XS.aload X208.here hx rfl (hb hby d1_68) rfl rfl ?_
        show Steps p.tables e below (T208.setTop (mkF m 70 #[.val (.int P0), .val (.int P1), .val (.int P2), .val (.int P3), .val (.int P4), .val (.int ((((P0 &&& (1 : Int32)) + ((P0 >>> ((1 : Int32) &&& 31)) &&& (1 : Int32))) + ((P0 >>> ((2 : Int32) &&& 31)) &&& (1 : Int32))) + ((P0 >>> ((3 : Int32) &&& 31)) &&& (1 : Int32)))), .val (.ref b208), .val (.int (0 : Int32))] [(.ref b208)])) _
        refine XS.iload X208.here hx rfl (hb hby d1_70) rfl ?_
        show Steps p.tables e below (T208.setTop (mkF m 72 #[.val (.int P0), .val (.int P1), .val (.int P2), .val (.int P3), .val (.int P4), .val (.int ((((P0 &&& (1 : Int32)) + ((P0 >>> ((1 : Int32) &&& 31)) &&& (1 : Int32))) + ((P0 >>> ((2 : Int32) &&& 31)) &&& (1 : Int32))) + ((P0 >>> ((3 : Int32) &&& 31)) &&& (1 : Int32)))), .val (.ref b208), .val (.int (0 : Int32))] [(.int (0 : Int32)), (.ref b208)])) _
        refine XS.iloadN X208.here hx rfl (hb hby d1_72) rfl ?_
        show Steps p.tables e below (T208.setTop (mkF m 73 #[.val (.int P0), .val (.int P1), .val (.int P2), .val (.int P3), .val (.int P4), .val (.int ((((P0 &&& (1 : Int32)) + ((P0 >>> ((1 : Int32) &&& 31)) &&& (1 : Int32))) + ((P0 >>> ((2 : Int32) &&& 31)) &&& (1 : Int32))) + ((P0 >>> ((3 : Int32) &&& 31)) &&& (1 : Int32)))), .val (.ref b208), .val (.int (0 : Int32))] [(.int P3), (.int (0 : Int32)), (.ref b208)])) _
        refine st211 _ ?_
        show Steps p.tables e below (T211.setTop (mkF m 74 #[.val (.int P0), .val (.int P1), .val (.int P2), .val (.int P3), .val (.int P4), .val (.int ((((P0 &&& (1 : Int32)) + ((P0 >>> ((1 : Int32) &&& 31)) &&& (1 : Int32))) + ((P0 >>> ((2 : Int32) &&& 31)) &&& (1 : Int32))) + ((P0 >>> ((3 : Int32) &&& 31)) &&& (1 : Int32)))), .val (.ref b208), .val (.int (0 : Int32))] [])) _
        refine XS.iinc X211.here hx rfl (hb hby d1_74) rfl (l' := #[.val (.int P0), .val (.int P1), .val (.int P2), .val (.int P3), .val (.int P4), .val (.int ((((P0 &&& (1 : Int32)) + ((P0 >>> ((1 : Int32) &&& 31)) &&& (1 : Int32))) + ((P0 >>> ((2 : Int32) &&& 31)) &&& (1 : Int32))) + ((P0 >>> ((3 : Int32) &&& 31)) &&& (1 : Int32)))), .val (.ref b208), .val (.int ((0 : Int32) + (1 : Int32)))]) rfl ?_
        show Steps p.tables e below (T211.setTop (mkF m 77 #[.val (.int P0), .val (.int P1), .val (.int P2), .val (.int P3), .val (.int P4), .val (.int ((((P0 &&& (1 : Int32)) + ((P0 >>> ((1 : Int32) &&& 31)) &&& (1 : Int32))) + ((P0 >>> ((2 : Int32) &&& 31)) &&& (1 : Int32))) + ((P0 >>> ((3 : Int32) &&& 31)) &&& (1 : Int32)))), .val (.ref b208), .val (.int ((0 : Int32) + (1 : Int32)))] [])) _
        refine XS.iloadN X211.here hx rfl (hb hby d1_77) rfl ?_
        show Steps p.tables e below (T211.setTop (mkF m 78 #[.val (.int P0), .val (.int P1), .val (.int P2), .val (.int P3), .val (.int P4), .val (.int ((((P0 &&& (1 : Int32)) + ((P0 >>> ((1 : Int32) &&& 31)) &&& (1 : Int32))) + ((P0 >>> ((2 : Int32) &&& 31)) &&& (1 : Int32))) + ((P0 >>> ((3 : Int32) &&& 31)) &&& (1 : Int32)))), .val (.ref b208), .val (.int ((0 : Int32) + (1 : Int32)))] [(.int P0)])) _
        refine XS.bipush X211.here hx rfl (hb hby d1_78) ?_
        show Steps p.tables e below (T211.setTop (mkF m 80 #[.val (.int P0), .val (.int P1), .val (.int P2), .val (.int P3), .val (.int P4), .val (.int ((((P0 &&& (1 : Int32)) + ((P0 >>> ((1 : Int32) &&& 31)) &&& (1 : Int32))) + ((P0 >>> ((2 : Int32) &&& 31)) &&& (1 : Int32))) + ((P0 >>> ((3 : Int32) &&& 31)) &&& (1 : Int32)))), .val (.ref b208), .val (.int ((0 : Int32) + (1 : Int32)))] [(.int (8 : Int32)), (.int P0)])) _
        refine XS.iand X211.here hx rfl (hb hby d1_80) rfl ?_
        show Steps p.tables e below (T211.setTop (mkF m 81 #[.val (.int P0), .val (.int P1), .val (.int P2), .val (.int P3), .val (.int P4), .val (.int ((((P0 &&& (1 : Int32)) + ((P0 >>> ((1 : Int32) &&& 31)) &&& (1 : Int32))) + ((P0 >>> ((2 : Int32) &&& 31)) &&& (1 : Int32))) + ((P0 >>> ((3 : Int32) &&& 31)) &&& (1 : Int32)))), .val (.ref b208), .val (.int ((0 : Int32) + (1 : Int32)))] [(.int (P0 &&& (8 : Int32)))])) _
        refine XS.ifNo X211.here hx rfl (hb hby d1_81) rfl ((if0 _ _).trans (feq (show ¬ ((P0 &&& (8 : Int32)) = (0 : Int32)) from (by first | decide | (rw [hk]; decide)))).1) ?_
        show Steps p.tables e below (T211.setTop (mkF m 84 #[.val (.int P0), .val (.int P1), .val (.int P2), .val (.int P3), .val (.int P4), .val (.int ((((P0 &&& (1 : Int32)) + ((P0 >>> ((1 : Int32) &&& 31)) &&& (1 : Int32))) + ((P0 >>> ((2 : Int32) &&& 31)) &&& (1 : Int32))) + ((P0 >>> ((3 : Int32) &&& 31)) &&& (1 : Int32)))), .val (.ref b208), .val (.int ((0 : Int32) + (1 : Int32)))] [])) _
        refine XS.aload X211.here hx rfl (hb hby d1_84) rfl rfl ?_
        show Steps p.tables e below (T211.setTop (mkF m 86 #[.val (.int P0), .val (.int P1), .val (.int P2), .val (.int P3), .val (.int P4), .val (.int ((((P0 &&& (1 : Int32)) + ((P0 >>> ((1 : Int32) &&& 31)) &&& (1 : Int32))) + ((P0 >>> ((2 : Int32) &&& 31)) &&& (1 : Int32))) + ((P0 >>> ((3 : Int32) &&& 31)) &&& (1 : Int32)))), .val (.ref b208), .val (.int ((0 : Int32) + (1 : Int32)))] [(.ref b208)])) _
        refine XS.iload X211.here hx rfl (hb hby d1_86) rfl ?_
        show Steps p.tables e below (T211.setTop (mkF m 88 #[.val (.int P0), .val (.int P1), .val (.int P2), .val (.int P3), .val (.int P4), .val (.int ((((P0 &&& (1 : Int32)) + ((P0 >>> ((1 : Int32) &&& 31)) &&& (1 : Int32))) + ((P0 >>> ((2 : Int32) &&& 31)) &&& (1 : Int32))) + ((P0 >>> ((3 : Int32) &&& 31)) &&& (1 : Int32)))), .val (.ref b208), .val (.int ((0 : Int32) + (1 : Int32)))] [(.int ((0 : Int32) + (1 : Int32))), (.ref b208)])) _
        refine XS.iload X211.here hx rfl (hb hby d1_88) rfl ?_
        show Steps p.tables e below (T211.setTop (mkF m 90 #[.val (.int P0), .val (.int P1), .val (.int P2), .val (.int P3), .val (.int P4), .val (.int ((((P0 &&& (1 : Int32)) + ((P0 >>> ((1 : Int32) &&& 31)) &&& (1 : Int32))) + ((P0 >>> ((2 : Int32) &&& 31)) &&& (1 : Int32))) + ((P0 >>> ((3 : Int32) &&& 31)) &&& (1 : Int32)))), .val (.ref b208), .val (.int ((0 : Int32) + (1 : Int32)))] [(.int P4), (.int ((0 : Int32) + (1 : Int32))), (.ref b208)])) _
        refine st214 _ ?_
        show Steps p.tables e below (T214.setTop (mkF m 91 #[.val (.int P0), .val (.int P1), .val (.int P2), .val (.int P3), .val (.int P4), .val (.int ((((P0 &&& (1 : Int32)) + ((P0 >>> ((1 : Int32) &&& 31)) &&& (1 : Int32))) + ((P0 >>> ((2 : Int32) &&& 31)) &&& (1 : Int32))) + ((P0 >>> ((3 : Int32) &&& 31)) &&& (1 : Int32)))), .val (.ref b208), .val (.int ((0 : Int32) + (1 : Int32)))] [])) _
        refine XS.iinc X214.here hx rfl (hb hby d1_91) rfl (l' := #[.val (.int P0), .val (.int P1), .val (.int P2), .val (.int P3), .val (.int P4), .val (.int ((((P0 &&& (1 : Int32)) + ((P0 >>> ((1 : Int32) &&& 31)) &&& (1 : Int32))) + ((P0 >>> ((2 : Int32) &&& 31)) &&& (1 : Int32))) + ((P0 >>> ((3 : Int32) &&& 31)) &&& (1 : Int32)))), .val (.ref b208), .val (.int (((0 : Int32) + (1 : Int32)) + (1 : Int32)))]) rfl ?_
        show Steps p.tables e below (T214.setTop (mkF m 94 #[.val (.int P0), .val (.int P1), .val (.int P2), .val (.int P3), .val (.int P4), .val (.int ((((P0 &&& (1 : Int32)) + ((P0 >>> ((1 : Int32) &&& 31)) &&& (1 : Int32))) + ((P0 >>> ((2 : Int32) &&& 31)) &&& (1 : Int32))) + ((P0 >>> ((3 : Int32) &&& 31)) &&& (1 : Int32)))), .val (.ref b208), .val (.int (((0 : Int32) + (1 : Int32)) + (1 : Int32)))] [])) _
        refine XS.aload X214.here hx rfl (hb hby d1_94) rfl rfl ?_
        exact kt)
    have hsel : (own_sel P0 P1 P2 P3 P4).map Value.int = [(.int P3), (.int P4)] := by rw [hk, own_sel12]; rfl
    have c217 : Exa Z h214 b208 "[I" := ((EX208.wr W211).wr W214)
    obtain ⟨fs, hr, hrun, hended, hW, hsame⟩ := X214.leave (v := some (.ref b208)) (fun h => by rw [Bd.returns] at h; cases h)
    refine ⟨_, _, pre216 _ ?_, hrun, hended, _, _, rfl, ?_, ⟨_, rfl⟩, hW, hsame.mono (by decide) (by decide)⟩
    · show Steps p.tables e below (T214.setTop (mkF m 96 #[.val (.int P0), .val (.int P1), .val (.int P2), .val (.int P3), .val (.int P4), .val (.int ((((P0 &&& (1 : Int32)) + ((P0 >>> ((1 : Int32) &&& 31)) &&& (1 : Int32))) + ((P0 >>> ((2 : Int32) &&& 31)) &&& (1 : Int32))) + ((P0 >>> ((3 : Int32) &&& 31)) &&& (1 : Int32)))), .val (.ref b208), .val (.int (((0 : Int32) + (1 : Int32)) + (1 : Int32)))] [(.ref b208)])) _
      exact retOut X214 hx Bd.returns rfl (Or.inr (Or.inr (Or.inr (Or.inr ⟨rfl, rfl, rfl⟩)))) (hb hby d1_96) hr
    · show Q1 Z P0 P1 P2 P3 P4 h0 n0 _ T214.heap _
      rw [e214]
      exact ⟨b208, k208, rfl, N214, K_215, sz_b208, c217, (by rw [hsel]; exact V214)⟩
  · obtain ⟨T218, h218, k218, X218, e218, E218, A218, EX218, st218⟩ := newPE X0 hx hZ (hw _ (List.mem_of_getElem? (i := 8) rfl)) e0 (g := (mkF m 25 #[.val (.int P0), .val (.int P1), .val (.int P2), .val (.int P3), .val (.int P4), .val (.int ((((P0 &&& (1 : Int32)) + ((P0 >>> ((1 : Int32) &&& 31)) &&& (1 : Int32))) + ((P0 >>> ((2 : Int32) &&& 31)) &&& (1 : Int32))) + ((P0 >>> ((3 : Int32) &&& 31)) &&& (1 : Int32)))), .unset, .unset] [(.int ((((P0 &&& (1 : Int32)) + ((P0 >>> ((1 : Int32) &&& 31)) &&& (1 : Int32))) + ((P0 >>> ((2 : Int32) &&& 31)) &&& (1 : Int32))) + ((P0 >>> ((3 : Int32) &&& 31)) &&& (1 : Int32))))])) rfl (hb hby d1_25) rfl (by first | decide | (rw [hk]; decide)) (cap := 4) (by first | decide | (rw [hk]; decide)) (by decide) (by decide) (by decide) (ad := "[I") (by decide)
    obtain ⟨b218, q218⟩ : ∃ z, z = h0.size := ⟨_, rfl⟩
    rw [← q218] at A218 EX218 st218
    have g_b218 : n0 ≤ b218 := Nat.le_trans Z0 (Nat.le_of_eq q218.symm)
    have sz_b218 : h0.size ≤ b218 := Nat.le_trans K_0.1 (Nat.le_of_eq q218.symm)
    have Z219 : n0 ≤ h218.size := Nat.le_trans Z0 E218.1
    have K_219 : Keep h0 h218 [] := K_0.ext E218
    have V218 : Arv Z h218 b218 k218 .int ((((P0 &&& (1 : Int32)) + ((P0 >>> ((1 : Int32) &&& 31)) &&& (1 : Int32))) + ((P0 >>> ((2 : Int32) &&& 31)) &&& (1 : Int32))) + ((P0 >>> ((3 : Int32) &&& 31)) &&& (1 : Int32))) [(.int (0 : Int32)), (.int (0 : Int32)), (.int (0 : Int32))] (.int (0 : Int32)) := (Arv.new A218 (by first | decide | (rw [hk]; decide))).pad (pad_rep [] (.int (0 : Int32)) 3)
    obtain ⟨cl220, Ar220, q220, S220, N_220, H220, G220⟩ := id V218
    have hin220 : ¬ ((0 : Int32) < 0 ∨ cl220.slots.size ≤ ((0 : Int32)).toNatClampNeg) := inb_of S220 ⟨by first | decide | (rw [hk]; decide), by first | decide | (rw [hk]; decide)⟩
    obtain ⟨T221, h221, X221, e221, W221, st221⟩ := stI X218 hx hZ e218 Ar220 (j := (0 : Int32)) hin220 (g := (mkF m 43 #[.val (.int P0), .val (.int P1), .val (.int P2), .val (.int P3), .val (.int P4), .val (.int ((((P0 &&& (1 : Int32)) + ((P0 >>> ((1 : Int32) &&& 31)) &&& (1 : Int32))) + ((P0 >>> ((2 : Int32) &&& 31)) &&& (1 : Int32))) + ((P0 >>> ((3 : Int32) &&& 31)) &&& (1 : Int32)))), .val (.ref b218), .val (.int (0 : Int32))] [(.int P1), (.int (0 : Int32)), (.ref b218)])) rfl rfl (hb hby d1_43)
    have Z222 : n0 ≤ h221.size := Nat.le_trans Z219 (Nat.le_of_eq W221.size.symm)
    have K_222 : Keep h0 h221 [] := K_219.wr W221 (Or.inr sz_b218)
    have V221 : Arv Z h221 b218 k218 .int ((((P0 &&& (1 : Int32)) + ((P0 >>> ((1 : Int32) &&& 31)) &&& (1 : Int32))) + ((P0 >>> ((2 : Int32) &&& 31)) &&& (1 : Int32))) + ((P0 >>> ((3 : Int32) &&& 31)) &&& (1 : Int32))) [(.int P1), (.int (0 : Int32)), (.int (0 : Int32))] (.int (0 : Int32)) := Arv.set Ar220 q220 S220 N_220 H220 G220 rfl W221 0 rfl (Nat.le_of_ble_eq_true rfl)
    have N221 := Fr.snoc X221 N0 g_b218
    obtain ⟨cl223, Ar223, q223, S223, N_223, H223, G223⟩ := id V221
    have hin223 : ¬ (((0 : Int32) + (1 : Int32)) < 0 ∨ cl223.slots.size ≤ (((0 : Int32) + (1 : Int32))).toNatClampNeg) := inb_of S223 ⟨by first | decide | (rw [hk]; decide), by first | decide | (rw [hk]; decide)⟩
    obtain ⟨T224, h224, X224, e224, W224, st224⟩ := stI X221 hx hZ e221 Ar223 (j := ((0 : Int32) + (1 : Int32))) hin223 (g := (mkF m 73 #[.val (.int P0), .val (.int P1), .val (.int P2), .val (.int P3), .val (.int P4), .val (.int ((((P0 &&& (1 : Int32)) + ((P0 >>> ((1 : Int32) &&& 31)) &&& (1 : Int32))) + ((P0 >>> ((2 : Int32) &&& 31)) &&& (1 : Int32))) + ((P0 >>> ((3 : Int32) &&& 31)) &&& (1 : Int32)))), .val (.ref b218), .val (.int ((0 : Int32) + (1 : Int32)))] [(.int P3), (.int ((0 : Int32) + (1 : Int32))), (.ref b218)])) rfl rfl (hb hby d1_73)
    have Z225 : n0 ≤ h224.size := Nat.le_trans Z222 (Nat.le_of_eq W224.size.symm)
    have K_225 : Keep h0 h224 [] := K_222.wr W224 (Or.inr sz_b218)
    have V224 : Arv Z h224 b218 k218 .int ((((P0 &&& (1 : Int32)) + ((P0 >>> ((1 : Int32) &&& 31)) &&& (1 : Int32))) + ((P0 >>> ((2 : Int32) &&& 31)) &&& (1 : Int32))) + ((P0 >>> ((3 : Int32) &&& 31)) &&& (1 : Int32))) [(.int P1), (.int P3), (.int (0 : Int32))] (.int (0 : Int32)) := Arv.set Ar223 q223 S223 N_223 H223 G223 rfl W224 1 (by decide) (Nat.le_of_ble_eq_true rfl)
    have N224 := Fr.snoc X224 N221 g_b218
    obtain ⟨cl226, Ar226, q226, S226, N_226, H226, G226⟩ := id V224
    have hin226 : ¬ ((((0 : Int32) + (1 : Int32)) + (1 : Int32)) < 0 ∨ cl226.slots.size ≤ ((((0 : Int32) + (1 : Int32)) + (1 : Int32))).toNatClampNeg) := inb_of S226 ⟨by first | decide | (rw [hk]; decide), by first | decide | (rw [hk]; decide)⟩
    obtain ⟨T227, h227, X227, e227, W227, st227⟩ := stI X224 hx hZ e224 Ar226 (j := (((0 : Int32) + (1 : Int32)) + (1 : Int32))) hin226 (g := (mkF m 90 #[.val (.int P0), .val (.int P1), .val (.int P2), .val (.int P3), .val (.int P4), .val (.int ((((P0 &&& (1 : Int32)) + ((P0 >>> ((1 : Int32) &&& 31)) &&& (1 : Int32))) + ((P0 >>> ((2 : Int32) &&& 31)) &&& (1 : Int32))) + ((P0 >>> ((3 : Int32) &&& 31)) &&& (1 : Int32)))), .val (.ref b218), .val (.int (((0 : Int32) + (1 : Int32)) + (1 : Int32)))] [(.int P4), (.int (((0 : Int32) + (1 : Int32)) + (1 : Int32))), (.ref b218)])) rfl rfl (hb hby d1_90)
    have Z228 : n0 ≤ h227.size := Nat.le_trans Z225 (Nat.le_of_eq W227.size.symm)
    have K_228 : Keep h0 h227 [] := K_225.wr W227 (Or.inr sz_b218)
    have V227 : Arv Z h227 b218 k218 .int ((((P0 &&& (1 : Int32)) + ((P0 >>> ((1 : Int32) &&& 31)) &&& (1 : Int32))) + ((P0 >>> ((2 : Int32) &&& 31)) &&& (1 : Int32))) + ((P0 >>> ((3 : Int32) &&& 31)) &&& (1 : Int32))) [(.int P1), (.int P3), (.int P4)] (.int (0 : Int32)) := Arv.set Ar226 q226 S226 N_226 H226 G226 rfl W227 2 (by decide) (Nat.le_of_ble_eq_true rfl)
    have N227 := Fr.snoc X227 N224 g_b218
    have pre229 : ∀ t, Steps p.tables e below (T227.setTop (mkF m 96 #[.val (.int P0), .val (.int P1), .val (.int P2), .val (.int P3), .val (.int P4), .val (.int ((((P0 &&& (1 : Int32)) + ((P0 >>> ((1 : Int32) &&& 31)) &&& (1 : Int32))) + ((P0 >>> ((2 : Int32) &&& 31)) &&& (1 : Int32))) + ((P0 >>> ((3 : Int32) &&& 31)) &&& (1 : Int32)))), .val (.ref b218), .val (.int ((((0 : Int32) + (1 : Int32)) + (1 : Int32)) + (1 : Int32)))] [(.ref b218)])) t → Steps p.tables e below (s₁.setTop (entryFrame m #[(.int P0), (.int P1), (.int P2), (.int P3), (.int P4)] 8)) t := fun t kt => pre0 t (by
        show Steps p.tables e below (s₁.setTop (mkF m 0 #[.val (.int P0), .val (.int P1), .val (.int P2), .val (.int P3), .val (.int P4), .unset, .unset, .unset] [])) _
        refine XS.iloadN X0.here hx rfl (hb hby d1_0) rfl ?_
        show Steps p.tables e below (s₁.setTop (mkF m 1 #[.val (.int P0), .val (.int P1), .val (.int P2), .val (.int P3), .val (.int P4), .unset, .unset, .unset] [(.int P0)])) _
        refine XS.iconst X0.here hx rfl (hb hby d1_1) ?_
        show Steps p.tables e below (s₁.setTop (mkF m 2 #[.val (.int P0), .val (.int P1), .val (.int P2), .val (.int P3), .val (.int P4), .unset, .unset, .unset] [(.int (1 : Int32)), (.int P0)])) _
        refine XS.iand X0.here hx rfl (hb hby d1_2) rfl ?_
        show Steps p.tables e below (s₁.setTop (mkF m 3 #[.val (.int P0), .val (.int P1), .val (.int P2), .val (.int P3), .val (.int P4), .unset, .unset, .unset] [(.int (P0 &&& (1 : Int32)))])) _
        refine XS.iloadN X0.here hx rfl (hb hby d1_3) rfl ?_
        show Steps p.tables e below (s₁.setTop (mkF m 4 #[.val (.int P0), .val (.int P1), .val (.int P2), .val (.int P3), .val (.int P4), .unset, .unset, .unset] [(.int P0), (.int (P0 &&& (1 : Int32)))])) _
        refine XS.iconst X0.here hx rfl (hb hby d1_4) ?_
        show Steps p.tables e below (s₁.setTop (mkF m 5 #[.val (.int P0), .val (.int P1), .val (.int P2), .val (.int P3), .val (.int P4), .unset, .unset, .unset] [(.int (1 : Int32)), (.int P0), (.int (P0 &&& (1 : Int32)))])) _
        refine XS.ishr X0.here hx rfl (hb hby d1_5) rfl ?_
        show Steps p.tables e below (s₁.setTop (mkF m 6 #[.val (.int P0), .val (.int P1), .val (.int P2), .val (.int P3), .val (.int P4), .unset, .unset, .unset] [(.int (P0 >>> ((1 : Int32) &&& 31))), (.int (P0 &&& (1 : Int32)))])) _
        refine XS.iconst X0.here hx rfl (hb hby d1_6) ?_
        show Steps p.tables e below (s₁.setTop (mkF m 7 #[.val (.int P0), .val (.int P1), .val (.int P2), .val (.int P3), .val (.int P4), .unset, .unset, .unset] [(.int (1 : Int32)), (.int (P0 >>> ((1 : Int32) &&& 31))), (.int (P0 &&& (1 : Int32)))])) _
        refine XS.iand X0.here hx rfl (hb hby d1_7) rfl ?_
        show Steps p.tables e below (s₁.setTop (mkF m 8 #[.val (.int P0), .val (.int P1), .val (.int P2), .val (.int P3), .val (.int P4), .unset, .unset, .unset] [(.int ((P0 >>> ((1 : Int32) &&& 31)) &&& (1 : Int32))), (.int (P0 &&& (1 : Int32)))])) _
        refine XS.iadd X0.here hx rfl (hb hby d1_8) rfl ?_
        show Steps p.tables e below (s₁.setTop (mkF m 9 #[.val (.int P0), .val (.int P1), .val (.int P2), .val (.int P3), .val (.int P4), .unset, .unset, .unset] [(.int ((P0 &&& (1 : Int32)) + ((P0 >>> ((1 : Int32) &&& 31)) &&& (1 : Int32))))])) _
        refine XS.iloadN X0.here hx rfl (hb hby d1_9) rfl ?_
        show Steps p.tables e below (s₁.setTop (mkF m 10 #[.val (.int P0), .val (.int P1), .val (.int P2), .val (.int P3), .val (.int P4), .unset, .unset, .unset] [(.int P0), (.int ((P0 &&& (1 : Int32)) + ((P0 >>> ((1 : Int32) &&& 31)) &&& (1 : Int32))))])) _
        refine XS.iconst X0.here hx rfl (hb hby d1_10) ?_
        show Steps p.tables e below (s₁.setTop (mkF m 11 #[.val (.int P0), .val (.int P1), .val (.int P2), .val (.int P3), .val (.int P4), .unset, .unset, .unset] [(.int (2 : Int32)), (.int P0), (.int ((P0 &&& (1 : Int32)) + ((P0 >>> ((1 : Int32) &&& 31)) &&& (1 : Int32))))])) _
        refine XS.ishr X0.here hx rfl (hb hby d1_11) rfl ?_
        show Steps p.tables e below (s₁.setTop (mkF m 12 #[.val (.int P0), .val (.int P1), .val (.int P2), .val (.int P3), .val (.int P4), .unset, .unset, .unset] [(.int (P0 >>> ((2 : Int32) &&& 31))), (.int ((P0 &&& (1 : Int32)) + ((P0 >>> ((1 : Int32) &&& 31)) &&& (1 : Int32))))])) _
        refine XS.iconst X0.here hx rfl (hb hby d1_12) ?_
        show Steps p.tables e below (s₁.setTop (mkF m 13 #[.val (.int P0), .val (.int P1), .val (.int P2), .val (.int P3), .val (.int P4), .unset, .unset, .unset] [(.int (1 : Int32)), (.int (P0 >>> ((2 : Int32) &&& 31))), (.int ((P0 &&& (1 : Int32)) + ((P0 >>> ((1 : Int32) &&& 31)) &&& (1 : Int32))))])) _
        refine XS.iand X0.here hx rfl (hb hby d1_13) rfl ?_
        show Steps p.tables e below (s₁.setTop (mkF m 14 #[.val (.int P0), .val (.int P1), .val (.int P2), .val (.int P3), .val (.int P4), .unset, .unset, .unset] [(.int ((P0 >>> ((2 : Int32) &&& 31)) &&& (1 : Int32))), (.int ((P0 &&& (1 : Int32)) + ((P0 >>> ((1 : Int32) &&& 31)) &&& (1 : Int32))))])) _
        refine XS.iadd X0.here hx rfl (hb hby d1_14) rfl ?_
        show Steps p.tables e below (s₁.setTop (mkF m 15 #[.val (.int P0), .val (.int P1), .val (.int P2), .val (.int P3), .val (.int P4), .unset, .unset, .unset] [(.int (((P0 &&& (1 : Int32)) + ((P0 >>> ((1 : Int32) &&& 31)) &&& (1 : Int32))) + ((P0 >>> ((2 : Int32) &&& 31)) &&& (1 : Int32))))])) _
        refine XS.iloadN X0.here hx rfl (hb hby d1_15) rfl ?_
        show Steps p.tables e below (s₁.setTop (mkF m 16 #[.val (.int P0), .val (.int P1), .val (.int P2), .val (.int P3), .val (.int P4), .unset, .unset, .unset] [(.int P0), (.int (((P0 &&& (1 : Int32)) + ((P0 >>> ((1 : Int32) &&& 31)) &&& (1 : Int32))) + ((P0 >>> ((2 : Int32) &&& 31)) &&& (1 : Int32))))])) _
        refine XS.iconst X0.here hx rfl (hb hby d1_16) ?_
        show Steps p.tables e below (s₁.setTop (mkF m 17 #[.val (.int P0), .val (.int P1), .val (.int P2), .val (.int P3), .val (.int P4), .unset, .unset, .unset] [(.int (3 : Int32)), (.int P0), (.int (((P0 &&& (1 : Int32)) + ((P0 >>> ((1 : Int32) &&& 31)) &&& (1 : Int32))) + ((P0 >>> ((2 : Int32) &&& 31)) &&& (1 : Int32))))])) _
        refine XS.ishr X0.here hx rfl (hb hby d1_17) rfl ?_
        show Steps p.tables e below (s₁.setTop (mkF m 18 #[.val (.int P0), .val (.int P1), .val (.int P2), .val (.int P3), .val (.int P4), .unset, .unset, .unset] [(.int (P0 >>> ((3 : Int32) &&& 31))), (.int (((P0 &&& (1 : Int32)) + ((P0 >>> ((1 : Int32) &&& 31)) &&& (1 : Int32))) + ((P0 >>> ((2 : Int32) &&& 31)) &&& (1 : Int32))))])) _
        refine XS.iconst X0.here hx rfl (hb hby d1_18) ?_
        show Steps p.tables e below (s₁.setTop (mkF m 19 #[.val (.int P0), .val (.int P1), .val (.int P2), .val (.int P3), .val (.int P4), .unset, .unset, .unset] [(.int (1 : Int32)), (.int (P0 >>> ((3 : Int32) &&& 31))), (.int (((P0 &&& (1 : Int32)) + ((P0 >>> ((1 : Int32) &&& 31)) &&& (1 : Int32))) + ((P0 >>> ((2 : Int32) &&& 31)) &&& (1 : Int32))))])) _
        refine XS.iand X0.here hx rfl (hb hby d1_19) rfl ?_
        show Steps p.tables e below (s₁.setTop (mkF m 20 #[.val (.int P0), .val (.int P1), .val (.int P2), .val (.int P3), .val (.int P4), .unset, .unset, .unset] [(.int ((P0 >>> ((3 : Int32) &&& 31)) &&& (1 : Int32))), (.int (((P0 &&& (1 : Int32)) + ((P0 >>> ((1 : Int32) &&& 31)) &&& (1 : Int32))) + ((P0 >>> ((2 : Int32) &&& 31)) &&& (1 : Int32))))])) _
        refine XS.iadd X0.here hx rfl (hb hby d1_20) rfl ?_
        show Steps p.tables e below (s₁.setTop (mkF m 21 #[.val (.int P0), .val (.int P1), .val (.int P2), .val (.int P3), .val (.int P4), .unset, .unset, .unset] [(.int ((((P0 &&& (1 : Int32)) + ((P0 >>> ((1 : Int32) &&& 31)) &&& (1 : Int32))) + ((P0 >>> ((2 : Int32) &&& 31)) &&& (1 : Int32))) + ((P0 >>> ((3 : Int32) &&& 31)) &&& (1 : Int32))))])) _
        refine XS.istore X0.here hx rfl (hb hby d1_21) rfl (l' := #[.val (.int P0), .val (.int P1), .val (.int P2), .val (.int P3), .val (.int P4), .val (.int ((((P0 &&& (1 : Int32)) + ((P0 >>> ((1 : Int32) &&& 31)) &&& (1 : Int32))) + ((P0 >>> ((2 : Int32) &&& 31)) &&& (1 : Int32))) + ((P0 >>> ((3 : Int32) &&& 31)) &&& (1 : Int32)))), .unset, .unset]) rfl ?_
        show Steps p.tables e below (s₁.setTop (mkF m 23 #[.val (.int P0), .val (.int P1), .val (.int P2), .val (.int P3), .val (.int P4), .val (.int ((((P0 &&& (1 : Int32)) + ((P0 >>> ((1 : Int32) &&& 31)) &&& (1 : Int32))) + ((P0 >>> ((2 : Int32) &&& 31)) &&& (1 : Int32))) + ((P0 >>> ((3 : Int32) &&& 31)) &&& (1 : Int32)))), .unset, .unset] [])) _
        refine XS.iload X0.here hx rfl (hb hby d1_23) rfl ?_
        show Steps p.tables e below (s₁.setTop (mkF m 25 #[.val (.int P0), .val (.int P1), .val (.int P2), .val (.int P3), .val (.int P4), .val (.int ((((P0 &&& (1 : Int32)) + ((P0 >>> ((1 : Int32) &&& 31)) &&& (1 : Int32))) + ((P0 >>> ((2 : Int32) &&& 31)) &&& (1 : Int32))) + ((P0 >>> ((3 : Int32) &&& 31)) &&& (1 : Int32)))), .unset, .unset] [(.int ((((P0 &&& (1 : Int32)) + ((P0 >>> ((1 : Int32) &&& 31)) &&& (1 : Int32))) + ((P0 >>> ((2 : Int32) &&& 31)) &&& (1 : Int32))) + ((P0 >>> ((3 : Int32) &&& 31)) &&& (1 : Int32))))])) _
        refine st218 _ ?_
        show Steps p.tables e below (T218.setTop (mkF m 27 #[.val (.int P0), .val (.int P1), .val (.int P2), .val (.int P3), .val (.int P4), .val (.int ((((P0 &&& (1 : Int32)) + ((P0 >>> ((1 : Int32) &&& 31)) &&& (1 : Int32))) + ((P0 >>> ((2 : Int32) &&& 31)) &&& (1 : Int32))) + ((P0 >>> ((3 : Int32) &&& 31)) &&& (1 : Int32)))), .unset, .unset] [(.ref b218)])) _
        refine XS.astore X218.here hx rfl (hb hby d1_27) rfl rfl (l' := #[.val (.int P0), .val (.int P1), .val (.int P2), .val (.int P3), .val (.int P4), .val (.int ((((P0 &&& (1 : Int32)) + ((P0 >>> ((1 : Int32) &&& 31)) &&& (1 : Int32))) + ((P0 >>> ((2 : Int32) &&& 31)) &&& (1 : Int32))) + ((P0 >>> ((3 : Int32) &&& 31)) &&& (1 : Int32)))), .val (.ref b218), .unset]) rfl ?_
        show Steps p.tables e below (T218.setTop (mkF m 29 #[.val (.int P0), .val (.int P1), .val (.int P2), .val (.int P3), .val (.int P4), .val (.int ((((P0 &&& (1 : Int32)) + ((P0 >>> ((1 : Int32) &&& 31)) &&& (1 : Int32))) + ((P0 >>> ((2 : Int32) &&& 31)) &&& (1 : Int32))) + ((P0 >>> ((3 : Int32) &&& 31)) &&& (1 : Int32)))), .val (.ref b218), .unset] [])) _
        refine XS.iconst X218.here hx rfl (hb hby d1_29) ?_
        show Steps p.tables e below (T218.setTop (mkF m 30 #[.val (.int P0), .val (.int P1), .val (.int P2), .val (.int P3), .val (.int P4), .val (.int ((((P0 &&& (1 : Int32)) + ((P0 >>> ((1 : Int32) &&& 31)) &&& (1 : Int32))) + ((P0 >>> ((2 : Int32) &&& 31)) &&& (1 : Int32))) + ((P0 >>> ((3 : Int32) &&& 31)) &&& (1 : Int32)))), .val (.ref b218), .unset] [(.int (0 : Int32))])) _
        refine XS.istore X218.here hx rfl (hb hby d1_30) rfl (l' := #[.val (.int P0), .val (.int P1), .val (.int P2), .val (.int P3), .val (.int P4), .val (.int ((((P0 &&& (1 : Int32)) + ((P0 >>> ((1 : Int32) &&& 31)) &&& (1 : Int32))) + ((P0 >>> ((2 : Int32) &&& 31)) &&& (1 : Int32))) + ((P0 >>> ((3 : Int32) &&& 31)) &&& (1 : Int32)))), .val (.ref b218), .val (.int (0 : Int32))]) rfl ?_
        show Steps p.tables e below (T218.setTop (mkF m 32 #[.val (.int P0), .val (.int P1), .val (.int P2), .val (.int P3), .val (.int P4), .val (.int ((((P0 &&& (1 : Int32)) + ((P0 >>> ((1 : Int32) &&& 31)) &&& (1 : Int32))) + ((P0 >>> ((2 : Int32) &&& 31)) &&& (1 : Int32))) + ((P0 >>> ((3 : Int32) &&& 31)) &&& (1 : Int32)))), .val (.ref b218), .val (.int (0 : Int32))] [])) _
        refine XS.iloadN X218.here hx rfl (hb hby d1_32) rfl ?_
        show Steps p.tables e below (T218.setTop (mkF m 33 #[.val (.int P0), .val (.int P1), .val (.int P2), .val (.int P3), .val (.int P4), .val (.int ((((P0 &&& (1 : Int32)) + ((P0 >>> ((1 : Int32) &&& 31)) &&& (1 : Int32))) + ((P0 >>> ((2 : Int32) &&& 31)) &&& (1 : Int32))) + ((P0 >>> ((3 : Int32) &&& 31)) &&& (1 : Int32)))), .val (.ref b218), .val (.int (0 : Int32))] [(.int P0)])) _
        refine XS.iconst X218.here hx rfl (hb hby d1_33) ?_
        show Steps p.tables e below (T218.setTop (mkF m 34 #[.val (.int P0), .val (.int P1), .val (.int P2), .val (.int P3), .val (.int P4), .val (.int ((((P0 &&& (1 : Int32)) + ((P0 >>> ((1 : Int32) &&& 31)) &&& (1 : Int32))) + ((P0 >>> ((2 : Int32) &&& 31)) &&& (1 : Int32))) + ((P0 >>> ((3 : Int32) &&& 31)) &&& (1 : Int32)))), .val (.ref b218), .val (.int (0 : Int32))] [(.int (1 : Int32)), (.int P0)])) _
        refine XS.iand X218.here hx rfl (hb hby d1_34) rfl ?_
        show Steps p.tables e below (T218.setTop (mkF m 35 #[.val (.int P0), .val (.int P1), .val (.int P2), .val (.int P3), .val (.int P4), .val (.int ((((P0 &&& (1 : Int32)) + ((P0 >>> ((1 : Int32) &&& 31)) &&& (1 : Int32))) + ((P0 >>> ((2 : Int32) &&& 31)) &&& (1 : Int32))) + ((P0 >>> ((3 : Int32) &&& 31)) &&& (1 : Int32)))), .val (.ref b218), .val (.int (0 : Int32))] [(.int (P0 &&& (1 : Int32)))])) _
        refine XS.ifNo X218.here hx rfl (hb hby d1_35) rfl ((if0 _ _).trans (feq (show ¬ ((P0 &&& (1 : Int32)) = (0 : Int32)) from (by first | decide | (rw [hk]; decide)))).1) ?_
        show Steps p.tables e below (T218.setTop (mkF m 38 #[.val (.int P0), .val (.int P1), .val (.int P2), .val (.int P3), .val (.int P4), .val (.int ((((P0 &&& (1 : Int32)) + ((P0 >>> ((1 : Int32) &&& 31)) &&& (1 : Int32))) + ((P0 >>> ((2 : Int32) &&& 31)) &&& (1 : Int32))) + ((P0 >>> ((3 : Int32) &&& 31)) &&& (1 : Int32)))), .val (.ref b218), .val (.int (0 : Int32))] [])) _
        refine XS.aload X218.here hx rfl (hb hby d1_38) rfl rfl ?_
        show Steps p.tables e below (T218.setTop (mkF m 40 #[.val (.int P0), .val (.int P1), .val (.int P2), .val (.int P3), .val (.int P4), .val (.int ((((P0 &&& (1 : Int32)) + ((P0 >>> ((1 : Int32) &&& 31)) &&& (1 : Int32))) + ((P0 >>> ((2 : Int32) &&& 31)) &&& (1 : Int32))) + ((P0 >>> ((3 : Int32) &&& 31)) &&& (1 : Int32)))), .val (.ref b218), .val (.int (0 : Int32))] [(.ref b218)])) _
        refine XS.iload X218.here hx rfl (hb hby d1_40) rfl ?_
        show Steps p.tables e below (T218.setTop (mkF m 42 #[.val (.int P0), .val (.int P1), .val (.int P2), .val (.int P3), .val (.int P4), .val (.int ((((P0 &&& (1 : Int32)) + ((P0 >>> ((1 : Int32) &&& 31)) &&& (1 : Int32))) + ((P0 >>> ((2 : Int32) &&& 31)) &&& (1 : Int32))) + ((P0 >>> ((3 : Int32) &&& 31)) &&& (1 : Int32)))), .val (.ref b218), .val (.int (0 : Int32))] [(.int (0 : Int32)), (.ref b218)])) _
        refine XS.iloadN X218.here hx rfl (hb hby d1_42) rfl ?_
        show Steps p.tables e below (T218.setTop (mkF m 43 #[.val (.int P0), .val (.int P1), .val (.int P2), .val (.int P3), .val (.int P4), .val (.int ((((P0 &&& (1 : Int32)) + ((P0 >>> ((1 : Int32) &&& 31)) &&& (1 : Int32))) + ((P0 >>> ((2 : Int32) &&& 31)) &&& (1 : Int32))) + ((P0 >>> ((3 : Int32) &&& 31)) &&& (1 : Int32)))), .val (.ref b218), .val (.int (0 : Int32))] [(.int P1), (.int (0 : Int32)), (.ref b218)])) _
        refine st221 _ ?_
        show Steps p.tables e below (T221.setTop (mkF m 44 #[.val (.int P0), .val (.int P1), .val (.int P2), .val (.int P3), .val (.int P4), .val (.int ((((P0 &&& (1 : Int32)) + ((P0 >>> ((1 : Int32) &&& 31)) &&& (1 : Int32))) + ((P0 >>> ((2 : Int32) &&& 31)) &&& (1 : Int32))) + ((P0 >>> ((3 : Int32) &&& 31)) &&& (1 : Int32)))), .val (.ref b218), .val (.int (0 : Int32))] [])) _
        refine XS.iinc X221.here hx rfl (hb hby d1_44) rfl (l' := #[.val (.int P0), .val (.int P1), .val (.int P2), .val (.int P3), .val (.int P4), .val (.int ((((P0 &&& (1 : Int32)) + ((P0 >>> ((1 : Int32) &&& 31)) &&& (1 : Int32))) + ((P0 >>> ((2 : Int32) &&& 31)) &&& (1 : Int32))) + ((P0 >>> ((3 : Int32) &&& 31)) &&& (1 : Int32)))), .val (.ref b218), .val (.int ((0 : Int32) + (1 : Int32)))]) rfl ?_
        show Steps p.tables e below (T221.setTop (mkF m 47 #[.val (.int P0), .val (.int P1), .val (.int P2), .val (.int P3), .val (.int P4), .val (.int ((((P0 &&& (1 : Int32)) + ((P0 >>> ((1 : Int32) &&& 31)) &&& (1 : Int32))) + ((P0 >>> ((2 : Int32) &&& 31)) &&& (1 : Int32))) + ((P0 >>> ((3 : Int32) &&& 31)) &&& (1 : Int32)))), .val (.ref b218), .val (.int ((0 : Int32) + (1 : Int32)))] [])) _
        refine XS.iloadN X221.here hx rfl (hb hby d1_47) rfl ?_
        show Steps p.tables e below (T221.setTop (mkF m 48 #[.val (.int P0), .val (.int P1), .val (.int P2), .val (.int P3), .val (.int P4), .val (.int ((((P0 &&& (1 : Int32)) + ((P0 >>> ((1 : Int32) &&& 31)) &&& (1 : Int32))) + ((P0 >>> ((2 : Int32) &&& 31)) &&& (1 : Int32))) + ((P0 >>> ((3 : Int32) &&& 31)) &&& (1 : Int32)))), .val (.ref b218), .val (.int ((0 : Int32) + (1 : Int32)))] [(.int P0)])) _
        refine XS.iconst X221.here hx rfl (hb hby d1_48) ?_
        show Steps p.tables e below (T221.setTop (mkF m 49 #[.val (.int P0), .val (.int P1), .val (.int P2), .val (.int P3), .val (.int P4), .val (.int ((((P0 &&& (1 : Int32)) + ((P0 >>> ((1 : Int32) &&& 31)) &&& (1 : Int32))) + ((P0 >>> ((2 : Int32) &&& 31)) &&& (1 : Int32))) + ((P0 >>> ((3 : Int32) &&& 31)) &&& (1 : Int32)))), .val (.ref b218), .val (.int ((0 : Int32) + (1 : Int32)))] [(.int (2 : Int32)), (.int P0)])) _
        refine XS.iand X221.here hx rfl (hb hby d1_49) rfl ?_
        show Steps p.tables e below (T221.setTop (mkF m 50 #[.val (.int P0), .val (.int P1), .val (.int P2), .val (.int P3), .val (.int P4), .val (.int ((((P0 &&& (1 : Int32)) + ((P0 >>> ((1 : Int32) &&& 31)) &&& (1 : Int32))) + ((P0 >>> ((2 : Int32) &&& 31)) &&& (1 : Int32))) + ((P0 >>> ((3 : Int32) &&& 31)) &&& (1 : Int32)))), .val (.ref b218), .val (.int ((0 : Int32) + (1 : Int32)))] [(.int (P0 &&& (2 : Int32)))])) _
        refine XS.ifYes X221.here hx rfl (pc0 := 50) (pc' := 62) rfl (hb hby d1_50) rfl ((if0 _ _).trans (teq (show (P0 &&& (2 : Int32)) = (0 : Int32) from (by first | decide | (rw [hk]; decide)))).1) (by decide) (by decide) ?_
        show Steps p.tables e below (T221.setTop (mkF m 62 #[.val (.int P0), .val (.int P1), .val (.int P2), .val (.int P3), .val (.int P4), .val (.int ((((P0 &&& (1 : Int32)) + ((P0 >>> ((1 : Int32) &&& 31)) &&& (1 : Int32))) + ((P0 >>> ((2 : Int32) &&& 31)) &&& (1 : Int32))) + ((P0 >>> ((3 : Int32) &&& 31)) &&& (1 : Int32)))), .val (.ref b218), .val (.int ((0 : Int32) + (1 : Int32)))] [])) _
        refine XS.iloadN X221.here hx rfl (hb hby d1_62) rfl ?_
        show Steps p.tables e below (T221.setTop (mkF m 63 #[.val (.int P0), .val (.int P1), .val (.int P2), .val (.int P3), .val (.int P4), .val (.int ((((P0 &&& (1 : Int32)) + ((P0 >>> ((1 : Int32) &&& 31)) &&& (1 : Int32))) + ((P0 >>> ((2 : Int32) &&& 31)) &&& (1 : Int32))) + ((P0 >>> ((3 : Int32) &&& 31)) &&& (1 : Int32)))), .val (.ref b218), .val (.int ((0 : Int32) + (1 : Int32)))] [(.int P0)])) _
        refine XS.iconst X221.here hx rfl (hb hby d1_63) ?_
        show Steps p.tables e below (T221.setTop (mkF m 64 #[.val (.int P0), .val (.int P1), .val (.int P2), .val (.int P3), .val (.int P4), .val (.int ((((P0 &&& (1 : Int32)) + ((P0 >>> ((1 : Int32) &&& 31)) &&& (1 : Int32))) + ((P0 >>> ((2 : Int32) &&& 31)) &&& (1 : Int32))) + ((P0 >>> ((3 : Int32) &&& 31)) &&& (1 : Int32)))), .val (.ref b218), .val (.int ((0 : Int32) + (1 : Int32)))] [(.int (4 : Int32)), (.int P0)])) _
        refine XS.iand X221.here hx rfl (hb hby d1_64) rfl ?_
        show Steps p.tables e below (T221.setTop (mkF m 65 #[.val (.int P0), .val (.int P1), .val (.int P2), .val (.int P3), .val (.int P4), .val (.int ((((P0 &&& (1 : Int32)) + ((P0 >>> ((1 : Int32) &&& 31)) &&& (1 : Int32))) + ((P0 >>> ((2 : Int32) &&& 31)) &&& (1 : Int32))) + ((P0 >>> ((3 : Int32) &&& 31)) &&& (1 : Int32)))), .val (.ref b218), .val (.int ((0 : Int32) + (1 : Int32)))] [(.int (P0 &&& (4 : Int32)))])) _
        refine XS.ifNo X221.here hx rfl (hb hby d1_65) rfl ((if0 _ _).trans (feq (show ¬ ((P0 &&& (4 : Int32)) = (0 : Int32)) from (by first | decide | (rw [hk]; decide)))).1) ?_
        show Steps p.tables e below (T221.setTop (mkF m 68 #[.val (.int P0), .val (.int P1), .val (.int P2), .val (.int P3), .val (.int P4), .val (.int ((((P0 &&& (1 : Int32)) + ((P0 >>> ((1 : Int32) &&& 31)) &&& (1 : Int32))) + ((P0 >>> ((2 : Int32) &&& 31)) &&& (1 : Int32))) + ((P0 >>> ((3 : Int32) &&& 31)) &&& (1 : Int32)))), .val (.ref b218), .val (.int ((0 : Int32) + (1 : Int32)))] [])) _
        refine XS.aload X221.here hx rfl (hb hby d1_68) rfl rfl ?_
        show Steps p.tables e below (T221.setTop (mkF m 70 #[.val (.int P0), .val (.int P1), .val (.int P2), .val (.int P3), .val (.int P4), .val (.int ((((P0 &&& (1 : Int32)) + ((P0 >>> ((1 : Int32) &&& 31)) &&& (1 : Int32))) + ((P0 >>> ((2 : Int32) &&& 31)) &&& (1 : Int32))) + ((P0 >>> ((3 : Int32) &&& 31)) &&& (1 : Int32)))), .val (.ref b218), .val (.int ((0 : Int32) + (1 : Int32)))] [(.ref b218)])) _
        refine XS.iload X221.here hx rfl (hb hby d1_70) rfl ?_
        show Steps p.tables e below (T221.setTop (mkF m 72 #[.val (.int P0), .val (.int P1), .val (.int P2), .val (.int P3), .val (.int P4), .val (.int ((((P0 &&& (1 : Int32)) + ((P0 >>> ((1 : Int32) &&& 31)) &&& (1 : Int32))) + ((P0 >>> ((2 : Int32) &&& 31)) &&& (1 : Int32))) + ((P0 >>> ((3 : Int32) &&& 31)) &&& (1 : Int32)))), .val (.ref b218), .val (.int ((0 : Int32) + (1 : Int32)))] [(.int ((0 : Int32) + (1 : Int32))), (.ref b218)])) _
        refine XS.iloadN X221.here hx rfl (hb hby d1_72) rfl ?_
        show Steps p.tables e below (T221.setTop (mkF m 73 #[.val (.int P0), .val (.int P1), .val (.int P2), .val (.int P3), .val (.int P4), .val (.int ((((P0 &&& (1 : Int32)) + ((P0 >>> ((1 : Int32) &&& 31)) &&& (1 : Int32))) + ((P0 >>> ((2 : Int32) &&& 31)) &&& (1 : Int32))) + ((P0 >>> ((3 : Int32) &&& 31)) &&& (1 : Int32)))), .val (.ref b218), .val (.int ((0 : Int32) + (1 : Int32)))] [(.int P3), (.int ((0 : Int32) + (1 : Int32))), (.ref b218)])) _
        refine st224 _ ?_
        show Steps p.tables e below (T224.setTop (mkF m 74 #[.val (.int P0), .val (.int P1), .val (.int P2), .val (.int P3), .val (.int P4), .val (.int ((((P0 &&& (1 : Int32)) + ((P0 >>> ((1 : Int32) &&& 31)) &&& (1 : Int32))) + ((P0 >>> ((2 : Int32) &&& 31)) &&& (1 : Int32))) + ((P0 >>> ((3 : Int32) &&& 31)) &&& (1 : Int32)))), .val (.ref b218), .val (.int ((0 : Int32) + (1 : Int32)))] [])) _
        refine XS.iinc X224.here hx rfl (hb hby d1_74) rfl (l' := #[.val (.int P0), .val (.int P1), .val (.int P2), .val (.int P3), .val (.int P4), .val (.int ((((P0 &&& (1 : Int32)) + ((P0 >>> ((1 : Int32) &&& 31)) &&& (1 : Int32))) + ((P0 >>> ((2 : Int32) &&& 31)) &&& (1 : Int32))) + ((P0 >>> ((3 : Int32) &&& 31)) &&& (1 : Int32)))), .val (.ref b218), .val (.int (((0 : Int32) + (1 : Int32)) + (1 : Int32)))]) rfl ?_
        show Steps p.tables e below (T224.setTop (mkF m 77 #[.val (.int P0), .val (.int P1), .val (.int P2), .val (.int P3), .val (.int P4), .val (.int ((((P0 &&& (1 : Int32)) + ((P0 >>> ((1 : Int32) &&& 31)) &&& (1 : Int32))) + ((P0 >>> ((2 : Int32) &&& 31)) &&& (1 : Int32))) + ((P0 >>> ((3 : Int32) &&& 31)) &&& (1 : Int32)))), .val (.ref b218), .val (.int (((0 : Int32) + (1 : Int32)) + (1 : Int32)))] [])) _
        refine XS.iloadN X224.here hx rfl (hb hby d1_77) rfl ?_
        show Steps p.tables e below (T224.setTop (mkF m 78 #[.val (.int P0), .val (.int P1), .val (.int P2), .val (.int P3), .val (.int P4), .val (.int ((((P0 &&& (1 : Int32)) + ((P0 >>> ((1 : Int32) &&& 31)) &&& (1 : Int32))) + ((P0 >>> ((2 : Int32) &&& 31)) &&& (1 : Int32))) + ((P0 >>> ((3 : Int32) &&& 31)) &&& (1 : Int32)))), .val (.ref b218), .val (.int (((0 : Int32) + (1 : Int32)) + (1 : Int32)))] [(.int P0)])) _
        refine XS.bipush X224.here hx rfl (hb hby d1_78) ?_
        show Steps p.tables e below (T224.setTop (mkF m 80 #[.val (.int P0), .val (.int P1), .val (.int P2), .val (.int P3), .val (.int P4), .val (.int ((((P0 &&& (1 : Int32)) + ((P0 >>> ((1 : Int32) &&& 31)) &&& (1 : Int32))) + ((P0 >>> ((2 : Int32) &&& 31)) &&& (1 : Int32))) + ((P0 >>> ((3 : Int32) &&& 31)) &&& (1 : Int32)))), .val (.ref b218), .val (.int (((0 : Int32) + (1 : Int32)) + (1 : Int32)))] [(.int (8 : Int32)), (.int P0)])) _
        refine XS.iand X224.here hx rfl (hb hby d1_80) rfl ?_
        show Steps p.tables e below (T224.setTop (mkF m 81 #[.val (.int P0), .val (.int P1), .val (.int P2), .val (.int P3), .val (.int P4), .val (.int ((((P0 &&& (1 : Int32)) + ((P0 >>> ((1 : Int32) &&& 31)) &&& (1 : Int32))) + ((P0 >>> ((2 : Int32) &&& 31)) &&& (1 : Int32))) + ((P0 >>> ((3 : Int32) &&& 31)) &&& (1 : Int32)))), .val (.ref b218), .val (.int (((0 : Int32) + (1 : Int32)) + (1 : Int32)))] [(.int (P0 &&& (8 : Int32)))])) _
        refine XS.ifNo X224.here hx rfl (hb hby d1_81) rfl ((if0 _ _).trans (feq (show ¬ ((P0 &&& (8 : Int32)) = (0 : Int32)) from (by first | decide | (rw [hk]; decide)))).1) ?_
        show Steps p.tables e below (T224.setTop (mkF m 84 #[.val (.int P0), .val (.int P1), .val (.int P2), .val (.int P3), .val (.int P4), .val (.int ((((P0 &&& (1 : Int32)) + ((P0 >>> ((1 : Int32) &&& 31)) &&& (1 : Int32))) + ((P0 >>> ((2 : Int32) &&& 31)) &&& (1 : Int32))) + ((P0 >>> ((3 : Int32) &&& 31)) &&& (1 : Int32)))), .val (.ref b218), .val (.int (((0 : Int32) + (1 : Int32)) + (1 : Int32)))] [])) _
        refine XS.aload X224.here hx rfl (hb hby d1_84) rfl rfl ?_
        show Steps p.tables e below (T224.setTop (mkF m 86 #[.val (.int P0), .val (.int P1), .val (.int P2), .val (.int P3), .val (.int P4), .val (.int ((((P0 &&& (1 : Int32)) + ((P0 >>> ((1 : Int32) &&& 31)) &&& (1 : Int32))) + ((P0 >>> ((2 : Int32) &&& 31)) &&& (1 : Int32))) + ((P0 >>> ((3 : Int32) &&& 31)) &&& (1 : Int32)))), .val (.ref b218), .val (.int (((0 : Int32) + (1 : Int32)) + (1 : Int32)))] [(.ref b218)])) _
        refine XS.iload X224.here hx rfl (hb hby d1_86) rfl ?_
        show Steps p.tables e below (T224.setTop (mkF m 88 #[.val (.int P0), .val (.int P1), .val (.int P2), .val (.int P3), .val (.int P4), .val (.int ((((P0 &&& (1 : Int32)) + ((P0 >>> ((1 : Int32) &&& 31)) &&& (1 : Int32))) + ((P0 >>> ((2 : Int32) &&& 31)) &&& (1 : Int32))) + ((P0 >>> ((3 : Int32) &&& 31)) &&& (1 : Int32)))), .val (.ref b218), .val (.int (((0 : Int32) + (1 : Int32)) + (1 : Int32)))] [(.int (((0 : Int32) + (1 : Int32)) + (1 : Int32))), (.ref b218)])) _
        refine XS.iload X224.here hx rfl (hb hby d1_88) rfl ?_
        show Steps p.tables e below (T224.setTop (mkF m 90 #[.val (.int P0), .val (.int P1), .val (.int P2), .val (.int P3), .val (.int P4), .val (.int ((((P0 &&& (1 : Int32)) + ((P0 >>> ((1 : Int32) &&& 31)) &&& (1 : Int32))) + ((P0 >>> ((2 : Int32) &&& 31)) &&& (1 : Int32))) + ((P0 >>> ((3 : Int32) &&& 31)) &&& (1 : Int32)))), .val (.ref b218), .val (.int (((0 : Int32) + (1 : Int32)) + (1 : Int32)))] [(.int P4), (.int (((0 : Int32) + (1 : Int32)) + (1 : Int32))), (.ref b218)])) _
        refine st227 _ ?_
        show Steps p.tables e below (T227.setTop (mkF m 91 #[.val (.int P0), .val (.int P1), .val (.int P2), .val (.int P3), .val (.int P4), .val (.int ((((P0 &&& (1 : Int32)) + ((P0 >>> ((1 : Int32) &&& 31)) &&& (1 : Int32))) + ((P0 >>> ((2 : Int32) &&& 31)) &&& (1 : Int32))) + ((P0 >>> ((3 : Int32) &&& 31)) &&& (1 : Int32)))), .val (.ref b218), .val (.int (((0 : Int32) + (1 : Int32)) + (1 : Int32)))] [])) _
        refine XS.iinc X227.here hx rfl (hb hby d1_91) rfl (l' := #[.val (.int P0), .val (.int P1), .val (.int P2), .val (.int P3), .val (.int P4), .val (.int ((((P0 &&& (1 : Int32)) + ((P0 >>> ((1 : Int32) &&& 31)) &&& (1 : Int32))) + ((P0 >>> ((2 : Int32) &&& 31)) &&& (1 : Int32))) + ((P0 >>> ((3 : Int32) &&& 31)) &&& (1 : Int32)))), .val (.ref b218), .val (.int ((((0 : Int32) + (1 : Int32)) + (1 : Int32)) + (1 : Int32)))]) rfl ?_
        show Steps p.tables e below (T227.setTop (mkF m 94 #[.val (.int P0), .val (.int P1), .val (.int P2), .val (.int P3), .val (.int P4), .val (.int ((((P0 &&& (1 : Int32)) + ((P0 >>> ((1 : Int32) &&& 31)) &&& (1 : Int32))) + ((P0 >>> ((2 : Int32) &&& 31)) &&& (1 : Int32))) + ((P0 >>> ((3 : Int32) &&& 31)) &&& (1 : Int32)))), .val (.ref b218), .val (.int ((((0 : Int32) + (1 : Int32)) + (1 : Int32)) + (1 : Int32)))] [])) _
        refine XS.aload X227.here hx rfl (hb hby d1_94) rfl rfl ?_
        exact kt)
    have hsel : (own_sel P0 P1 P2 P3 P4).map Value.int = [(.int P1), (.int P3), (.int P4)] := by rw [hk, own_sel13]; rfl
    have c230 : Exa Z h227 b218 "[I" := (((EX218.wr W221).wr W224).wr W227)
    obtain ⟨fs, hr, hrun, hended, hW, hsame⟩ := X227.leave (v := some (.ref b218)) (fun h => by rw [Bd.returns] at h; cases h)
    refine ⟨_, _, pre229 _ ?_, hrun, hended, _, _, rfl, ?_, ⟨_, rfl⟩, hW, hsame.mono (by decide) (by decide)⟩
    · show Steps p.tables e below (T227.setTop (mkF m 96 #[.val (.int P0), .val (.int P1), .val (.int P2), .val (.int P3), .val (.int P4), .val (.int ((((P0 &&& (1 : Int32)) + ((P0 >>> ((1 : Int32) &&& 31)) &&& (1 : Int32))) + ((P0 >>> ((2 : Int32) &&& 31)) &&& (1 : Int32))) + ((P0 >>> ((3 : Int32) &&& 31)) &&& (1 : Int32)))), .val (.ref b218), .val (.int ((((0 : Int32) + (1 : Int32)) + (1 : Int32)) + (1 : Int32)))] [(.ref b218)])) _
      exact retOut X227 hx Bd.returns rfl (Or.inr (Or.inr (Or.inr (Or.inr ⟨rfl, rfl, rfl⟩)))) (hb hby d1_96) hr
    · show Q1 Z P0 P1 P2 P3 P4 h0 n0 _ T227.heap _
      rw [e227]
      exact ⟨b218, k218, rfl, N227, K_228, sz_b218, c230, (by rw [hsel]; exact V227)⟩
  · obtain ⟨T231, h231, k231, X231, e231, E231, A231, EX231, st231⟩ := newPE X0 hx hZ (hw _ (List.mem_of_getElem? (i := 8) rfl)) e0 (g := (mkF m 25 #[.val (.int P0), .val (.int P1), .val (.int P2), .val (.int P3), .val (.int P4), .val (.int ((((P0 &&& (1 : Int32)) + ((P0 >>> ((1 : Int32) &&& 31)) &&& (1 : Int32))) + ((P0 >>> ((2 : Int32) &&& 31)) &&& (1 : Int32))) + ((P0 >>> ((3 : Int32) &&& 31)) &&& (1 : Int32)))), .unset, .unset] [(.int ((((P0 &&& (1 : Int32)) + ((P0 >>> ((1 : Int32) &&& 31)) &&& (1 : Int32))) + ((P0 >>> ((2 : Int32) &&& 31)) &&& (1 : Int32))) + ((P0 >>> ((3 : Int32) &&& 31)) &&& (1 : Int32))))])) rfl (hb hby d1_25) rfl (by first | decide | (rw [hk]; decide)) (cap := 4) (by first | decide | (rw [hk]; decide)) (by decide) (by decide) (by decide) (ad := "[I") (by decide)
    obtain ⟨b231, q231⟩ : ∃ z, z = h0.size := ⟨_, rfl⟩
    rw [← q231] at A231 EX231 st231
    have g_b231 : n0 ≤ b231 := Nat.le_trans Z0 (Nat.le_of_eq q231.symm)
    have sz_b231 : h0.size ≤ b231 := Nat.le_trans K_0.1 (Nat.le_of_eq q231.symm)
    have Z232 : n0 ≤ h231.size := Nat.le_trans Z0 E231.1
    have K_232 : Keep h0 h231 [] := K_0.ext E231
    have V231 : Arv Z h231 b231 k231 .int ((((P0 &&& (1 : Int32)) + ((P0 >>> ((1 : Int32) &&& 31)) &&& (1 : Int32))) + ((P0 >>> ((2 : Int32) &&& 31)) &&& (1 : Int32))) + ((P0 >>> ((3 : Int32) &&& 31)) &&& (1 : Int32))) [(.int (0 : Int32)), (.int (0 : Int32)), (.int (0 : Int32))] (.int (0 : Int32)) := (Arv.new A231 (by first | decide | (rw [hk]; decide))).pad (pad_rep [] (.int (0 : Int32)) 3)
    obtain ⟨cl233, Ar233, q233, S233, N_233, H233, G233⟩ := id V231
    have hin233 : ¬ ((0 : Int32) < 0 ∨ cl233.slots.size ≤ ((0 : Int32)).toNatClampNeg) := inb_of S233 ⟨by first | decide | (rw [hk]; decide), by first | decide | (rw [hk]; decide)⟩
    obtain ⟨T234, h234, X234, e234, W234, st234⟩ := stI X231 hx hZ e231 Ar233 (j := (0 : Int32)) hin233 (g := (mkF m 58 #[.val (.int P0), .val (.int P1), .val (.int P2), .val (.int P3), .val (.int P4), .val (.int ((((P0 &&& (1 : Int32)) + ((P0 >>> ((1 : Int32) &&& 31)) &&& (1 : Int32))) + ((P0 >>> ((2 : Int32) &&& 31)) &&& (1 : Int32))) + ((P0 >>> ((3 : Int32) &&& 31)) &&& (1 : Int32)))), .val (.ref b231), .val (.int (0 : Int32))] [(.int P2), (.int (0 : Int32)), (.ref b231)])) rfl rfl (hb hby d1_58)
    have Z235 : n0 ≤ h234.size := Nat.le_trans Z232 (Nat.le_of_eq W234.size.symm)
    have K_235 : Keep h0 h234 [] := K_232.wr W234 (Or.inr sz_b231)
    have V234 : Arv Z h234 b231 k231 .int ((((P0 &&& (1 : Int32)) + ((P0 >>> ((1 : Int32) &&& 31)) &&& (1 : Int32))) + ((P0 >>> ((2 : Int32) &&& 31)) &&& (1 : Int32))) + ((P0 >>> ((3 : Int32) &&& 31)) &&& (1 : Int32))) [(.int P2), (.int (0 : Int32)), (.int (0 : Int32))] (.int (0 : Int32)) := Arv.set Ar233 q233 S233 N_233 H233 G233 rfl W234 0 rfl (Nat.le_of_ble_eq_true rfl)
    have N234 := Fr.snoc X234 N0 g_b231
    obtain ⟨cl236, Ar236, q236, S236, N_236, H236, G236⟩ := id V234
    have hin236 : ¬ (((0 : Int32) + (1 : Int32)) < 0 ∨ cl236.slots.size ≤ (((0 : Int32) + (1 : Int32))).toNatClampNeg) := inb_of S236 ⟨by first | decide | (rw [hk]; decide), by first | decide | (rw [hk]; decide)⟩
    obtain ⟨T237, h237, X237, e237, W237, st237⟩ := stI X234 hx hZ e234 Ar236 (j := ((0 : Int32) + (1 : Int32))) hin236 (g := (mkF m 73 #[.val (.int P0), .val (.int P1), .val (.int P2), .val (.int P3), .val (.int P4), .val (.int ((((P0 &&& (1 : Int32)) + ((P0 >>> ((1 : Int32) &&& 31)) &&& (1 : Int32))) + ((P0 >>> ((2 : Int32) &&& 31)) &&& (1 : Int32))) + ((P0 >>> ((3 : Int32) &&& 31)) &&& (1 : Int32)))), .val (.ref b231), .val (.int ((0 : Int32) + (1 : Int32)))] [(.int P3), (.int ((0 : Int32) + (1 : Int32))), (.ref b231)])) rfl rfl (hb hby d1_73)
    have Z238 : n0 ≤ h237.size := Nat.le_trans Z235 (Nat.le_of_eq W237.size.symm)
    have K_238 : Keep h0 h237 [] := K_235.wr W237 (Or.inr sz_b231)
    have V237 : Arv Z h237 b231 k231 .int ((((P0 &&& (1 : Int32)) + ((P0 >>> ((1 : Int32) &&& 31)) &&& (1 : Int32))) + ((P0 >>> ((2 : Int32) &&& 31)) &&& (1 : Int32))) + ((P0 >>> ((3 : Int32) &&& 31)) &&& (1 : Int32))) [(.int P2), (.int P3), (.int (0 : Int32))] (.int (0 : Int32)) := Arv.set Ar236 q236 S236 N_236 H236 G236 rfl W237 1 (by decide) (Nat.le_of_ble_eq_true rfl)
    have N237 := Fr.snoc X237 N234 g_b231
    obtain ⟨cl239, Ar239, q239, S239, N_239, H239, G239⟩ := id V237
    have hin239 : ¬ ((((0 : Int32) + (1 : Int32)) + (1 : Int32)) < 0 ∨ cl239.slots.size ≤ ((((0 : Int32) + (1 : Int32)) + (1 : Int32))).toNatClampNeg) := inb_of S239 ⟨by first | decide | (rw [hk]; decide), by first | decide | (rw [hk]; decide)⟩
    obtain ⟨T240, h240, X240, e240, W240, st240⟩ := stI X237 hx hZ e237 Ar239 (j := (((0 : Int32) + (1 : Int32)) + (1 : Int32))) hin239 (g := (mkF m 90 #[.val (.int P0), .val (.int P1), .val (.int P2), .val (.int P3), .val (.int P4), .val (.int ((((P0 &&& (1 : Int32)) + ((P0 >>> ((1 : Int32) &&& 31)) &&& (1 : Int32))) + ((P0 >>> ((2 : Int32) &&& 31)) &&& (1 : Int32))) + ((P0 >>> ((3 : Int32) &&& 31)) &&& (1 : Int32)))), .val (.ref b231), .val (.int (((0 : Int32) + (1 : Int32)) + (1 : Int32)))] [(.int P4), (.int (((0 : Int32) + (1 : Int32)) + (1 : Int32))), (.ref b231)])) rfl rfl (hb hby d1_90)
    have Z241 : n0 ≤ h240.size := Nat.le_trans Z238 (Nat.le_of_eq W240.size.symm)
    have K_241 : Keep h0 h240 [] := K_238.wr W240 (Or.inr sz_b231)
    have V240 : Arv Z h240 b231 k231 .int ((((P0 &&& (1 : Int32)) + ((P0 >>> ((1 : Int32) &&& 31)) &&& (1 : Int32))) + ((P0 >>> ((2 : Int32) &&& 31)) &&& (1 : Int32))) + ((P0 >>> ((3 : Int32) &&& 31)) &&& (1 : Int32))) [(.int P2), (.int P3), (.int P4)] (.int (0 : Int32)) := Arv.set Ar239 q239 S239 N_239 H239 G239 rfl W240 2 (by decide) (Nat.le_of_ble_eq_true rfl)
    have N240 := Fr.snoc X240 N237 g_b231
    have pre242 : ∀ t, Steps p.tables e below (T240.setTop (mkF m 96 #[.val (.int P0), .val (.int P1), .val (.int P2), .val (.int P3), .val (.int P4), .val (.int ((((P0 &&& (1 : Int32)) + ((P0 >>> ((1 : Int32) &&& 31)) &&& (1 : Int32))) + ((P0 >>> ((2 : Int32) &&& 31)) &&& (1 : Int32))) + ((P0 >>> ((3 : Int32) &&& 31)) &&& (1 : Int32)))), .val (.ref b231), .val (.int ((((0 : Int32) + (1 : Int32)) + (1 : Int32)) + (1 : Int32)))] [(.ref b231)])) t → Steps p.tables e below (s₁.setTop (entryFrame m #[(.int P0), (.int P1), (.int P2), (.int P3), (.int P4)] 8)) t := fun t kt => pre0 t (by
        show Steps p.tables e below (s₁.setTop (mkF m 0 #[.val (.int P0), .val (.int P1), .val (.int P2), .val (.int P3), .val (.int P4), .unset, .unset, .unset] [])) _
        refine XS.iloadN X0.here hx rfl (hb hby d1_0) rfl ?_
        show Steps p.tables e below (s₁.setTop (mkF m 1 #[.val (.int P0), .val (.int P1), .val (.int P2), .val (.int P3), .val (.int P4), .unset, .unset, .unset] [(.int P0)])) _
        refine XS.iconst X0.here hx rfl (hb hby d1_1) ?_
        show Steps p.tables e below (s₁.setTop (mkF m 2 #[.val (.int P0), .val (.int P1), .val (.int P2), .val (.int P3), .val (.int P4), .unset, .unset, .unset] [(.int (1 : Int32)), (.int P0)])) _
        refine XS.iand X0.here hx rfl (hb hby d1_2) rfl ?_
        show Steps p.tables e below (s₁.setTop (mkF m 3 #[.val (.int P0), .val (.int P1), .val (.int P2), .val (.int P3), .val (.int P4), .unset, .unset, .unset] [(.int (P0 &&& (1 : Int32)))])) _
        refine XS.iloadN X0.here hx rfl (hb hby d1_3) rfl ?_
        show Steps p.tables e below (s₁.setTop (mkF m 4 #[.val (.int P0), .val (.int P1), .val (.int P2), .val (.int P3), .val (.int P4), .unset, .unset, .unset] [(.int P0), (.int (P0 &&& (1 : Int32)))])) _
        refine XS.iconst X0.here hx rfl (hb hby d1_4) ?_
        show Steps p.tables e below (s₁.setTop (mkF m 5 #[.val (.int P0), .val (.int P1), .val (.int P2), .val (.int P3), .val (.int P4), .unset, .unset, .unset] [(.int (1 : Int32)), (.int P0), (.int (P0 &&& (1 : Int32)))])) _
        refine XS.ishr X0.here hx rfl (hb hby d1_5) rfl ?_
        show Steps p.tables e below (s₁.setTop (mkF m 6 #[.val (.int P0), .val (.int P1), .val (.int P2), .val (.int P3), .val (.int P4), .unset, .unset, .unset] [(.int (P0 >>> ((1 : Int32) &&& 31))), (.int (P0 &&& (1 : Int32)))])) _
        refine XS.iconst X0.here hx rfl (hb hby d1_6) ?_
        show Steps p.tables e below (s₁.setTop (mkF m 7 #[.val (.int P0), .val (.int P1), .val (.int P2), .val (.int P3), .val (.int P4), .unset, .unset, .unset] [(.int (1 : Int32)), (.int (P0 >>> ((1 : Int32) &&& 31))), (.int (P0 &&& (1 : Int32)))])) _
        refine XS.iand X0.here hx rfl (hb hby d1_7) rfl ?_
        show Steps p.tables e below (s₁.setTop (mkF m 8 #[.val (.int P0), .val (.int P1), .val (.int P2), .val (.int P3), .val (.int P4), .unset, .unset, .unset] [(.int ((P0 >>> ((1 : Int32) &&& 31)) &&& (1 : Int32))), (.int (P0 &&& (1 : Int32)))])) _
        refine XS.iadd X0.here hx rfl (hb hby d1_8) rfl ?_
        show Steps p.tables e below (s₁.setTop (mkF m 9 #[.val (.int P0), .val (.int P1), .val (.int P2), .val (.int P3), .val (.int P4), .unset, .unset, .unset] [(.int ((P0 &&& (1 : Int32)) + ((P0 >>> ((1 : Int32) &&& 31)) &&& (1 : Int32))))])) _
        refine XS.iloadN X0.here hx rfl (hb hby d1_9) rfl ?_
        show Steps p.tables e below (s₁.setTop (mkF m 10 #[.val (.int P0), .val (.int P1), .val (.int P2), .val (.int P3), .val (.int P4), .unset, .unset, .unset] [(.int P0), (.int ((P0 &&& (1 : Int32)) + ((P0 >>> ((1 : Int32) &&& 31)) &&& (1 : Int32))))])) _
        refine XS.iconst X0.here hx rfl (hb hby d1_10) ?_
        show Steps p.tables e below (s₁.setTop (mkF m 11 #[.val (.int P0), .val (.int P1), .val (.int P2), .val (.int P3), .val (.int P4), .unset, .unset, .unset] [(.int (2 : Int32)), (.int P0), (.int ((P0 &&& (1 : Int32)) + ((P0 >>> ((1 : Int32) &&& 31)) &&& (1 : Int32))))])) _
        refine XS.ishr X0.here hx rfl (hb hby d1_11) rfl ?_
        show Steps p.tables e below (s₁.setTop (mkF m 12 #[.val (.int P0), .val (.int P1), .val (.int P2), .val (.int P3), .val (.int P4), .unset, .unset, .unset] [(.int (P0 >>> ((2 : Int32) &&& 31))), (.int ((P0 &&& (1 : Int32)) + ((P0 >>> ((1 : Int32) &&& 31)) &&& (1 : Int32))))])) _
        refine XS.iconst X0.here hx rfl (hb hby d1_12) ?_
        show Steps p.tables e below (s₁.setTop (mkF m 13 #[.val (.int P0), .val (.int P1), .val (.int P2), .val (.int P3), .val (.int P4), .unset, .unset, .unset] [(.int (1 : Int32)), (.int (P0 >>> ((2 : Int32) &&& 31))), (.int ((P0 &&& (1 : Int32)) + ((P0 >>> ((1 : Int32) &&& 31)) &&& (1 : Int32))))])) _
        refine XS.iand X0.here hx rfl (hb hby d1_13) rfl ?_
        show Steps p.tables e below (s₁.setTop (mkF m 14 #[.val (.int P0), .val (.int P1), .val (.int P2), .val (.int P3), .val (.int P4), .unset, .unset, .unset] [(.int ((P0 >>> ((2 : Int32) &&& 31)) &&& (1 : Int32))), (.int ((P0 &&& (1 : Int32)) + ((P0 >>> ((1 : Int32) &&& 31)) &&& (1 : Int32))))])) _
        refine XS.iadd X0.here hx rfl (hb hby d1_14) rfl ?_
        show Steps p.tables e below (s₁.setTop (mkF m 15 #[.val (.int P0), .val (.int P1), .val (.int P2), .val (.int P3), .val (.int P4), .unset, .unset, .unset] [(.int (((P0 &&& (1 : Int32)) + ((P0 >>> ((1 : Int32) &&& 31)) &&& (1 : Int32))) + ((P0 >>> ((2 : Int32) &&& 31)) &&& (1 : Int32))))])) _
        refine XS.iloadN X0.here hx rfl (hb hby d1_15) rfl ?_
        show Steps p.tables e below (s₁.setTop (mkF m 16 #[.val (.int P0), .val (.int P1), .val (.int P2), .val (.int P3), .val (.int P4), .unset, .unset, .unset] [(.int P0), (.int (((P0 &&& (1 : Int32)) + ((P0 >>> ((1 : Int32) &&& 31)) &&& (1 : Int32))) + ((P0 >>> ((2 : Int32) &&& 31)) &&& (1 : Int32))))])) _
        refine XS.iconst X0.here hx rfl (hb hby d1_16) ?_
        show Steps p.tables e below (s₁.setTop (mkF m 17 #[.val (.int P0), .val (.int P1), .val (.int P2), .val (.int P3), .val (.int P4), .unset, .unset, .unset] [(.int (3 : Int32)), (.int P0), (.int (((P0 &&& (1 : Int32)) + ((P0 >>> ((1 : Int32) &&& 31)) &&& (1 : Int32))) + ((P0 >>> ((2 : Int32) &&& 31)) &&& (1 : Int32))))])) _
        refine XS.ishr X0.here hx rfl (hb hby d1_17) rfl ?_
        show Steps p.tables e below (s₁.setTop (mkF m 18 #[.val (.int P0), .val (.int P1), .val (.int P2), .val (.int P3), .val (.int P4), .unset, .unset, .unset] [(.int (P0 >>> ((3 : Int32) &&& 31))), (.int (((P0 &&& (1 : Int32)) + ((P0 >>> ((1 : Int32) &&& 31)) &&& (1 : Int32))) + ((P0 >>> ((2 : Int32) &&& 31)) &&& (1 : Int32))))])) _
        refine XS.iconst X0.here hx rfl (hb hby d1_18) ?_
        show Steps p.tables e below (s₁.setTop (mkF m 19 #[.val (.int P0), .val (.int P1), .val (.int P2), .val (.int P3), .val (.int P4), .unset, .unset, .unset] [(.int (1 : Int32)), (.int (P0 >>> ((3 : Int32) &&& 31))), (.int (((P0 &&& (1 : Int32)) + ((P0 >>> ((1 : Int32) &&& 31)) &&& (1 : Int32))) + ((P0 >>> ((2 : Int32) &&& 31)) &&& (1 : Int32))))])) _
        refine XS.iand X0.here hx rfl (hb hby d1_19) rfl ?_
        show Steps p.tables e below (s₁.setTop (mkF m 20 #[.val (.int P0), .val (.int P1), .val (.int P2), .val (.int P3), .val (.int P4), .unset, .unset, .unset] [(.int ((P0 >>> ((3 : Int32) &&& 31)) &&& (1 : Int32))), (.int (((P0 &&& (1 : Int32)) + ((P0 >>> ((1 : Int32) &&& 31)) &&& (1 : Int32))) + ((P0 >>> ((2 : Int32) &&& 31)) &&& (1 : Int32))))])) _
        refine XS.iadd X0.here hx rfl (hb hby d1_20) rfl ?_
        show Steps p.tables e below (s₁.setTop (mkF m 21 #[.val (.int P0), .val (.int P1), .val (.int P2), .val (.int P3), .val (.int P4), .unset, .unset, .unset] [(.int ((((P0 &&& (1 : Int32)) + ((P0 >>> ((1 : Int32) &&& 31)) &&& (1 : Int32))) + ((P0 >>> ((2 : Int32) &&& 31)) &&& (1 : Int32))) + ((P0 >>> ((3 : Int32) &&& 31)) &&& (1 : Int32))))])) _
        refine XS.istore X0.here hx rfl (hb hby d1_21) rfl (l' := #[.val (.int P0), .val (.int P1), .val (.int P2), .val (.int P3), .val (.int P4), .val (.int ((((P0 &&& (1 : Int32)) + ((P0 >>> ((1 : Int32) &&& 31)) &&& (1 : Int32))) + ((P0 >>> ((2 : Int32) &&& 31)) &&& (1 : Int32))) + ((P0 >>> ((3 : Int32) &&& 31)) &&& (1 : Int32)))), .unset, .unset]) rfl ?_
        show Steps p.tables e below (s₁.setTop (mkF m 23 #[.val (.int P0), .val (.int P1), .val (.int P2), .val (.int P3), .val (.int P4), .val (.int ((((P0 &&& (1 : Int32)) + ((P0 >>> ((1 : Int32) &&& 31)) &&& (1 : Int32))) + ((P0 >>> ((2 : Int32) &&& 31)) &&& (1 : Int32))) + ((P0 >>> ((3 : Int32) &&& 31)) &&& (1 : Int32)))), .unset, .unset] [])) _
        refine XS.iload X0.here hx rfl (hb hby d1_23) rfl ?_
        show Steps p.tables e below (s₁.setTop (mkF m 25 #[.val (.int P0), .val (.int P1), .val (.int P2), .val (.int P3), .val (.int P4), .val (.int ((((P0 &&& (1 : Int32)) + ((P0 >>> ((1 : Int32) &&& 31)) &&& (1 : Int32))) + ((P0 >>> ((2 : Int32) &&& 31)) &&& (1 : Int32))) + ((P0 >>> ((3 : Int32) &&& 31)) &&& (1 : Int32)))), .unset, .unset] [(.int ((((P0 &&& (1 : Int32)) + ((P0 >>> ((1 : Int32) &&& 31)) &&& (1 : Int32))) + ((P0 >>> ((2 : Int32) &&& 31)) &&& (1 : Int32))) + ((P0 >>> ((3 : Int32) &&& 31)) &&& (1 : Int32))))])) _
        refine st231 _ ?_
        show Steps p.tables e below (T231.setTop (mkF m 27 #[.val (.int P0), .val (.int P1), .val (.int P2), .val (.int P3), .val (.int P4), .val (.int ((((P0 &&& (1 : Int32)) + ((P0 >>> ((1 : Int32) &&& 31)) &&& (1 : Int32))) + ((P0 >>> ((2 : Int32) &&& 31)) &&& (1 : Int32))) + ((P0 >>> ((3 : Int32) &&& 31)) &&& (1 : Int32)))), .unset, .unset] [(.ref b231)])) _
        refine XS.astore X231.here hx rfl (hb hby d1_27) rfl rfl (l' := #[.val (.int P0), .val (.int P1), .val (.int P2), .val (.int P3), .val (.int P4), .val (.int ((((P0 &&& (1 : Int32)) + ((P0 >>> ((1 : Int32) &&& 31)) &&& (1 : Int32))) + ((P0 >>> ((2 : Int32) &&& 31)) &&& (1 : Int32))) + ((P0 >>> ((3 : Int32) &&& 31)) &&& (1 : Int32)))), .val (.ref b231), .unset]) rfl ?_
        show Steps p.tables e below (T231.setTop (mkF m 29 #[.val (.int P0), .val (.int P1), .val (.int P2), .val (.int P3), .val (.int P4), .val (.int ((((P0 &&& (1 : Int32)) + ((P0 >>> ((1 : Int32) &&& 31)) &&& (1 : Int32))) + ((P0 >>> ((2 : Int32) &&& 31)) &&& (1 : Int32))) + ((P0 >>> ((3 : Int32) &&& 31)) &&& (1 : Int32)))), .val (.ref b231), .unset] [])) _
        refine XS.iconst X231.here hx rfl (hb hby d1_29) ?_
        show Steps p.tables e below (T231.setTop (mkF m 30 #[.val (.int P0), .val (.int P1), .val (.int P2), .val (.int P3), .val (.int P4), .val (.int ((((P0 &&& (1 : Int32)) + ((P0 >>> ((1 : Int32) &&& 31)) &&& (1 : Int32))) + ((P0 >>> ((2 : Int32) &&& 31)) &&& (1 : Int32))) + ((P0 >>> ((3 : Int32) &&& 31)) &&& (1 : Int32)))), .val (.ref b231), .unset] [(.int (0 : Int32))])) _
        refine XS.istore X231.here hx rfl (hb hby d1_30) rfl (l' := #[.val (.int P0), .val (.int P1), .val (.int P2), .val (.int P3), .val (.int P4), .val (.int ((((P0 &&& (1 : Int32)) + ((P0 >>> ((1 : Int32) &&& 31)) &&& (1 : Int32))) + ((P0 >>> ((2 : Int32) &&& 31)) &&& (1 : Int32))) + ((P0 >>> ((3 : Int32) &&& 31)) &&& (1 : Int32)))), .val (.ref b231), .val (.int (0 : Int32))]) rfl ?_
        show Steps p.tables e below (T231.setTop (mkF m 32 #[.val (.int P0), .val (.int P1), .val (.int P2), .val (.int P3), .val (.int P4), .val (.int ((((P0 &&& (1 : Int32)) + ((P0 >>> ((1 : Int32) &&& 31)) &&& (1 : Int32))) + ((P0 >>> ((2 : Int32) &&& 31)) &&& (1 : Int32))) + ((P0 >>> ((3 : Int32) &&& 31)) &&& (1 : Int32)))), .val (.ref b231), .val (.int (0 : Int32))] [])) _
        refine XS.iloadN X231.here hx rfl (hb hby d1_32) rfl ?_
        show Steps p.tables e below (T231.setTop (mkF m 33 #[.val (.int P0), .val (.int P1), .val (.int P2), .val (.int P3), .val (.int P4), .val (.int ((((P0 &&& (1 : Int32)) + ((P0 >>> ((1 : Int32) &&& 31)) &&& (1 : Int32))) + ((P0 >>> ((2 : Int32) &&& 31)) &&& (1 : Int32))) + ((P0 >>> ((3 : Int32) &&& 31)) &&& (1 : Int32)))), .val (.ref b231), .val (.int (0 : Int32))] [(.int P0)])) _
        refine XS.iconst X231.here hx rfl (hb hby d1_33) ?_
        show Steps p.tables e below (T231.setTop (mkF m 34 #[.val (.int P0), .val (.int P1), .val (.int P2), .val (.int P3), .val (.int P4), .val (.int ((((P0 &&& (1 : Int32)) + ((P0 >>> ((1 : Int32) &&& 31)) &&& (1 : Int32))) + ((P0 >>> ((2 : Int32) &&& 31)) &&& (1 : Int32))) + ((P0 >>> ((3 : Int32) &&& 31)) &&& (1 : Int32)))), .val (.ref b231), .val (.int (0 : Int32))] [(.int (1 : Int32)), (.int P0)])) _
        refine XS.iand X231.here hx rfl (hb hby d1_34) rfl ?_
        show Steps p.tables e below (T231.setTop (mkF m 35 #[.val (.int P0), .val (.int P1), .val (.int P2), .val (.int P3), .val (.int P4), .val (.int ((((P0 &&& (1 : Int32)) + ((P0 >>> ((1 : Int32) &&& 31)) &&& (1 : Int32))) + ((P0 >>> ((2 : Int32) &&& 31)) &&& (1 : Int32))) + ((P0 >>> ((3 : Int32) &&& 31)) &&& (1 : Int32)))), .val (.ref b231), .val (.int (0 : Int32))] [(.int (P0 &&& (1 : Int32)))])) _
        refine XS.ifYes X231.here hx rfl (pc0 := 35) (pc' := 47) rfl (hb hby d1_35) rfl ((if0 _ _).trans (teq (show (P0 &&& (1 : Int32)) = (0 : Int32) from (by first | decide | (rw [hk]; decide)))).1) (by decide) (by decide) ?_
        show Steps p.tables e below (T231.setTop (mkF m 47 #[.val (.int P0), .val (.int P1), .val (.int P2), .val (.int P3), .val (.int P4), .val (.int ((((P0 &&& (1 : Int32)) + ((P0 >>> ((1 : Int32) &&& 31)) &&& (1 : Int32))) + ((P0 >>> ((2 : Int32) &&& 31)) &&& (1 : Int32))) + ((P0 >>> ((3 : Int32) &&& 31)) &&& (1 : Int32)))), .val (.ref b231), .val (.int (0 : Int32))] [])) _
        refine XS.iloadN X231.here hx rfl (hb hby d1_47) rfl ?_
        show Steps p.tables e below (T231.setTop (mkF m 48 #[.val (.int P0), .val (.int P1), .val (.int P2), .val (.int P3), .val (.int P4), .val (.int ((((P0 &&& (1 : Int32)) + ((P0 >>> ((1 : Int32) &&& 31)) &&& (1 : Int32))) + ((P0 >>> ((2 : Int32) &&& 31)) &&& (1 : Int32))) + ((P0 >>> ((3 : Int32) &&& 31)) &&& (1 : Int32)))), .val (.ref b231), .val (.int (0 : Int32))] [(.int P0)])) _
        refine XS.iconst X231.here hx rfl (hb hby d1_48) ?_
        show Steps p.tables e below (T231.setTop (mkF m 49 #[.val (.int P0), .val (.int P1), .val (.int P2), .val (.int P3), .val (.int P4), .val (.int ((((P0 &&& (1 : Int32)) + ((P0 >>> ((1 : Int32) &&& 31)) &&& (1 : Int32))) + ((P0 >>> ((2 : Int32) &&& 31)) &&& (1 : Int32))) + ((P0 >>> ((3 : Int32) &&& 31)) &&& (1 : Int32)))), .val (.ref b231), .val (.int (0 : Int32))] [(.int (2 : Int32)), (.int P0)])) _
        refine XS.iand X231.here hx rfl (hb hby d1_49) rfl ?_
        show Steps p.tables e below (T231.setTop (mkF m 50 #[.val (.int P0), .val (.int P1), .val (.int P2), .val (.int P3), .val (.int P4), .val (.int ((((P0 &&& (1 : Int32)) + ((P0 >>> ((1 : Int32) &&& 31)) &&& (1 : Int32))) + ((P0 >>> ((2 : Int32) &&& 31)) &&& (1 : Int32))) + ((P0 >>> ((3 : Int32) &&& 31)) &&& (1 : Int32)))), .val (.ref b231), .val (.int (0 : Int32))] [(.int (P0 &&& (2 : Int32)))])) _
        refine XS.ifNo X231.here hx rfl (hb hby d1_50) rfl ((if0 _ _).trans (feq (show ¬ ((P0 &&& (2 : Int32)) = (0 : Int32)) from (by first | decide | (rw [hk]; decide)))).1) ?_
        show Steps p.tables e below (T231.setTop (mkF m 53 #[.val (.int P0), .val (.int P1), .val (.int P2), .val (.int P3), .val (.int P4), .val (.int ((((P0 &&& (1 : Int32)) + ((P0 >>> ((1 : Int32) &&& 31)) &&& (1 : Int32))) + ((P0 >>> ((2 : Int32) &&& 31)) &&& (1 : Int32))) + ((P0 >>> ((3 : Int32) &&& 31)) &&& (1 : Int32)))), .val (.ref b231), .val (.int (0 : Int32))] [])) _
        refine XS.aload X231.here hx rfl (hb hby d1_53) rfl rfl ?_
        show Steps p.tables e below (T231.setTop (mkF m 55 #[.val (.int P0), .val (.int P1), .val (.int P2), .val (.int P3), .val (.int P4), .val (.int ((((P0 &&& (1 : Int32)) + ((P0 >>> ((1 : Int32) &&& 31)) &&& (1 : Int32))) + ((P0 >>> ((2 : Int32) &&& 31)) &&& (1 : Int32))) + ((P0 >>> ((3 : Int32) &&& 31)) &&& (1 : Int32)))), .val (.ref b231), .val (.int (0 : Int32))] [(.ref b231)])) _
        refine XS.iload X231.here hx rfl (hb hby d1_55) rfl ?_
        show Steps p.tables e below (T231.setTop (mkF m 57 #[.val (.int P0), .val (.int P1), .val (.int P2), .val (.int P3), .val (.int P4), .val (.int ((((P0 &&& (1 : Int32)) + ((P0 >>> ((1 : Int32) &&& 31)) &&& (1 : Int32))) + ((P0 >>> ((2 : Int32) &&& 31)) &&& (1 : Int32))) + ((P0 >>> ((3 : Int32) &&& 31)) &&& (1 : Int32)))), .val (.ref b231), .val (.int (0 : Int32))] [(.int (0 : Int32)), (.ref b231)])) _
        refine XS.iloadN X231.here hx rfl (hb hby d1_57) rfl ?_
        show Steps p.tables e below (T231.setTop (mkF m 58 #[.val (.int P0), .val (.int P1), .val (.int P2), .val (.int P3), .val (.int P4), .val (.int ((((P0 &&& (1 : Int32)) + ((P0 >>> ((1 : Int32) &&& 31)) &&& (1 : Int32))) + ((P0 >>> ((2 : Int32) &&& 31)) &&& (1 : Int32))) + ((P0 >>> ((3 : Int32) &&& 31)) &&& (1 : Int32)))), .val (.ref b231), .val (.int (0 : Int32))] [(.int P2), (.int (0 : Int32)), (.ref b231)])) _
        refine st234 _ ?_
        show Steps p.tables e below (T234.setTop (mkF m 59 #[.val (.int P0), .val (.int P1), .val (.int P2), .val (.int P3), .val (.int P4), .val (.int ((((P0 &&& (1 : Int32)) + ((P0 >>> ((1 : Int32) &&& 31)) &&& (1 : Int32))) + ((P0 >>> ((2 : Int32) &&& 31)) &&& (1 : Int32))) + ((P0 >>> ((3 : Int32) &&& 31)) &&& (1 : Int32)))), .val (.ref b231), .val (.int (0 : Int32))] [])) _
        refine XS.iinc X234.here hx rfl (hb hby d1_59) rfl (l' := #[.val (.int P0), .val (.int P1), .val (.int P2), .val (.int P3), .val (.int P4), .val (.int ((((P0 &&& (1 : Int32)) + ((P0 >>> ((1 : Int32) &&& 31)) &&& (1 : Int32))) + ((P0 >>> ((2 : Int32) &&& 31)) &&& (1 : Int32))) + ((P0 >>> ((3 : Int32) &&& 31)) &&& (1 : Int32)))), .val (.ref b231), .val (.int ((0 : Int32) + (1 : Int32)))]) rfl ?_
        show Steps p.tables e below (T234.setTop (mkF m 62 #[.val (.int P0), .val (.int P1), .val (.int P2), .val (.int P3), .val (.int P4), .val (.int ((((P0 &&& (1 : Int32)) + ((P0 >>> ((1 : Int32) &&& 31)) &&& (1 : Int32))) + ((P0 >>> ((2 : Int32) &&& 31)) &&& (1 : Int32))) + ((P0 >>> ((3 : Int32) &&& 31)) &&& (1 : Int32)))), .val (.ref b231), .val (.int ((0 : Int32) + (1 : Int32)))] [])) _
        refine XS.iloadN X234.here hx rfl (hb hby d1_62) rfl ?_
        show Steps p.tables e below (T234.setTop (mkF m 63 #[.val (.int P0), .val (.int P1), .val (.int P2), .val (.int P3), .val (.int P4), .val (.int ((((P0 &&& (1 : Int32)) + ((P0 >>> ((1 : Int32) &&& 31)) &&& (1 : Int32))) + ((P0 >>> ((2 : Int32) &&& 31)) &&& (1 : Int32))) + ((P0 >>> ((3 : Int32) &&& 31)) &&& (1 : Int32)))), .val (.ref b231), .val (.int ((0 : Int32) + (1 : Int32)))] [(.int P0)])) _
        refine XS.iconst X234.here hx rfl (hb hby d1_63) ?_
        show Steps p.tables e below (T234.setTop (mkF m 64 #[.val (.int P0), .val (.int P1), .val (.int P2), .val (.int P3), .val (.int P4), .val (.int ((((P0 &&& (1 : Int32)) + ((P0 >>> ((1 : Int32) &&& 31)) &&& (1 : Int32))) + ((P0 >>> ((2 : Int32) &&& 31)) &&& (1 : Int32))) + ((P0 >>> ((3 : Int32) &&& 31)) &&& (1 : Int32)))), .val (.ref b231), .val (.int ((0 : Int32) + (1 : Int32)))] [(.int (4 : Int32)), (.int P0)])) _
        refine XS.iand X234.here hx rfl (hb hby d1_64) rfl ?_
        show Steps p.tables e below (T234.setTop (mkF m 65 #[.val (.int P0), .val (.int P1), .val (.int P2), .val (.int P3), .val (.int P4), .val (.int ((((P0 &&& (1 : Int32)) + ((P0 >>> ((1 : Int32) &&& 31)) &&& (1 : Int32))) + ((P0 >>> ((2 : Int32) &&& 31)) &&& (1 : Int32))) + ((P0 >>> ((3 : Int32) &&& 31)) &&& (1 : Int32)))), .val (.ref b231), .val (.int ((0 : Int32) + (1 : Int32)))] [(.int (P0 &&& (4 : Int32)))])) _
        refine XS.ifNo X234.here hx rfl (hb hby d1_65) rfl ((if0 _ _).trans (feq (show ¬ ((P0 &&& (4 : Int32)) = (0 : Int32)) from (by first | decide | (rw [hk]; decide)))).1) ?_
        show Steps p.tables e below (T234.setTop (mkF m 68 #[.val (.int P0), .val (.int P1), .val (.int P2), .val (.int P3), .val (.int P4), .val (.int ((((P0 &&& (1 : Int32)) + ((P0 >>> ((1 : Int32) &&& 31)) &&& (1 : Int32))) + ((P0 >>> ((2 : Int32) &&& 31)) &&& (1 : Int32))) + ((P0 >>> ((3 : Int32) &&& 31)) &&& (1 : Int32)))), .val (.ref b231), .val (.int ((0 : Int32) + (1 : Int32)))] [])) _
        refine XS.aload X234.here hx rfl (hb hby d1_68) rfl rfl ?_
        show Steps p.tables e below (T234.setTop (mkF m 70 #[.val (.int P0), .val (.int P1), .val (.int P2), .val (.int P3), .val (.int P4), .val (.int ((((P0 &&& (1 : Int32)) + ((P0 >>> ((1 : Int32) &&& 31)) &&& (1 : Int32))) + ((P0 >>> ((2 : Int32) &&& 31)) &&& (1 : Int32))) + ((P0 >>> ((3 : Int32) &&& 31)) &&& (1 : Int32)))), .val (.ref b231), .val (.int ((0 : Int32) + (1 : Int32)))] [(.ref b231)])) _
        refine XS.iload X234.here hx rfl (hb hby d1_70) rfl ?_
        show Steps p.tables e below (T234.setTop (mkF m 72 #[.val (.int P0), .val (.int P1), .val (.int P2), .val (.int P3), .val (.int P4), .val (.int ((((P0 &&& (1 : Int32)) + ((P0 >>> ((1 : Int32) &&& 31)) &&& (1 : Int32))) + ((P0 >>> ((2 : Int32) &&& 31)) &&& (1 : Int32))) + ((P0 >>> ((3 : Int32) &&& 31)) &&& (1 : Int32)))), .val (.ref b231), .val (.int ((0 : Int32) + (1 : Int32)))] [(.int ((0 : Int32) + (1 : Int32))), (.ref b231)])) _
        refine XS.iloadN X234.here hx rfl (hb hby d1_72) rfl ?_
        show Steps p.tables e below (T234.setTop (mkF m 73 #[.val (.int P0), .val (.int P1), .val (.int P2), .val (.int P3), .val (.int P4), .val (.int ((((P0 &&& (1 : Int32)) + ((P0 >>> ((1 : Int32) &&& 31)) &&& (1 : Int32))) + ((P0 >>> ((2 : Int32) &&& 31)) &&& (1 : Int32))) + ((P0 >>> ((3 : Int32) &&& 31)) &&& (1 : Int32)))), .val (.ref b231), .val (.int ((0 : Int32) + (1 : Int32)))] [(.int P3), (.int ((0 : Int32) + (1 : Int32))), (.ref b231)])) _
        refine st237 _ ?_
        show Steps p.tables e below (T237.setTop (mkF m 74 #[.val (.int P0), .val (.int P1), .val (.int P2), .val (.int P3), .val (.int P4), .val (.int ((((P0 &&& (1 : Int32)) + ((P0 >>> ((1 : Int32) &&& 31)) &&& (1 : Int32))) + ((P0 >>> ((2 : Int32) &&& 31)) &&& (1 : Int32))) + ((P0 >>> ((3 : Int32) &&& 31)) &&& (1 : Int32)))), .val (.ref b231), .val (.int ((0 : Int32) + (1 : Int32)))] [])) _
        refine XS.iinc X237.here hx rfl (hb hby d1_74) rfl (l' := #[.val (.int P0), .val (.int P1), .val (.int P2), .val (.int P3), .val (.int P4), .val (.int ((((P0 &&& (1 : Int32)) + ((P0 >>> ((1 : Int32) &&& 31)) &&& (1 : Int32))) + ((P0 >>> ((2 : Int32) &&& 31)) &&& (1 : Int32))) + ((P0 >>> ((3 : Int32) &&& 31)) &&& (1 : Int32)))), .val (.ref b231), .val (.int (((0 : Int32) + (1 : Int32)) + (1 : Int32)))]) rfl ?_
        show Steps p.tables e below (T237.setTop (mkF m 77 #[.val (.int P0), .val (.int P1), .val (.int P2), .val (.int P3), .val (.int P4), .val (.int ((((P0 &&& (1 : Int32)) + ((P0 >>> ((1 : Int32) &&& 31)) &&& (1 : Int32))) + ((P0 >>> ((2 : Int32) &&& 31)) &&& (1 : Int32))) + ((P0 >>> ((3 : Int32) &&& 31)) &&& (1 : Int32)))), .val (.ref b231), .val (.int (((0 : Int32) + (1 : Int32)) + (1 : Int32)))] [])) _
        refine XS.iloadN X237.here hx rfl (hb hby d1_77) rfl ?_
        show Steps p.tables e below (T237.setTop (mkF m 78 #[.val (.int P0), .val (.int P1), .val (.int P2), .val (.int P3), .val (.int P4), .val (.int ((((P0 &&& (1 : Int32)) + ((P0 >>> ((1 : Int32) &&& 31)) &&& (1 : Int32))) + ((P0 >>> ((2 : Int32) &&& 31)) &&& (1 : Int32))) + ((P0 >>> ((3 : Int32) &&& 31)) &&& (1 : Int32)))), .val (.ref b231), .val (.int (((0 : Int32) + (1 : Int32)) + (1 : Int32)))] [(.int P0)])) _
        refine XS.bipush X237.here hx rfl (hb hby d1_78) ?_
        show Steps p.tables e below (T237.setTop (mkF m 80 #[.val (.int P0), .val (.int P1), .val (.int P2), .val (.int P3), .val (.int P4), .val (.int ((((P0 &&& (1 : Int32)) + ((P0 >>> ((1 : Int32) &&& 31)) &&& (1 : Int32))) + ((P0 >>> ((2 : Int32) &&& 31)) &&& (1 : Int32))) + ((P0 >>> ((3 : Int32) &&& 31)) &&& (1 : Int32)))), .val (.ref b231), .val (.int (((0 : Int32) + (1 : Int32)) + (1 : Int32)))] [(.int (8 : Int32)), (.int P0)])) _
        refine XS.iand X237.here hx rfl (hb hby d1_80) rfl ?_
        show Steps p.tables e below (T237.setTop (mkF m 81 #[.val (.int P0), .val (.int P1), .val (.int P2), .val (.int P3), .val (.int P4), .val (.int ((((P0 &&& (1 : Int32)) + ((P0 >>> ((1 : Int32) &&& 31)) &&& (1 : Int32))) + ((P0 >>> ((2 : Int32) &&& 31)) &&& (1 : Int32))) + ((P0 >>> ((3 : Int32) &&& 31)) &&& (1 : Int32)))), .val (.ref b231), .val (.int (((0 : Int32) + (1 : Int32)) + (1 : Int32)))] [(.int (P0 &&& (8 : Int32)))])) _
        refine XS.ifNo X237.here hx rfl (hb hby d1_81) rfl ((if0 _ _).trans (feq (show ¬ ((P0 &&& (8 : Int32)) = (0 : Int32)) from (by first | decide | (rw [hk]; decide)))).1) ?_
        show Steps p.tables e below (T237.setTop (mkF m 84 #[.val (.int P0), .val (.int P1), .val (.int P2), .val (.int P3), .val (.int P4), .val (.int ((((P0 &&& (1 : Int32)) + ((P0 >>> ((1 : Int32) &&& 31)) &&& (1 : Int32))) + ((P0 >>> ((2 : Int32) &&& 31)) &&& (1 : Int32))) + ((P0 >>> ((3 : Int32) &&& 31)) &&& (1 : Int32)))), .val (.ref b231), .val (.int (((0 : Int32) + (1 : Int32)) + (1 : Int32)))] [])) _
        refine XS.aload X237.here hx rfl (hb hby d1_84) rfl rfl ?_
        show Steps p.tables e below (T237.setTop (mkF m 86 #[.val (.int P0), .val (.int P1), .val (.int P2), .val (.int P3), .val (.int P4), .val (.int ((((P0 &&& (1 : Int32)) + ((P0 >>> ((1 : Int32) &&& 31)) &&& (1 : Int32))) + ((P0 >>> ((2 : Int32) &&& 31)) &&& (1 : Int32))) + ((P0 >>> ((3 : Int32) &&& 31)) &&& (1 : Int32)))), .val (.ref b231), .val (.int (((0 : Int32) + (1 : Int32)) + (1 : Int32)))] [(.ref b231)])) _
        refine XS.iload X237.here hx rfl (hb hby d1_86) rfl ?_
        show Steps p.tables e below (T237.setTop (mkF m 88 #[.val (.int P0), .val (.int P1), .val (.int P2), .val (.int P3), .val (.int P4), .val (.int ((((P0 &&& (1 : Int32)) + ((P0 >>> ((1 : Int32) &&& 31)) &&& (1 : Int32))) + ((P0 >>> ((2 : Int32) &&& 31)) &&& (1 : Int32))) + ((P0 >>> ((3 : Int32) &&& 31)) &&& (1 : Int32)))), .val (.ref b231), .val (.int (((0 : Int32) + (1 : Int32)) + (1 : Int32)))] [(.int (((0 : Int32) + (1 : Int32)) + (1 : Int32))), (.ref b231)])) _
        refine XS.iload X237.here hx rfl (hb hby d1_88) rfl ?_
        show Steps p.tables e below (T237.setTop (mkF m 90 #[.val (.int P0), .val (.int P1), .val (.int P2), .val (.int P3), .val (.int P4), .val (.int ((((P0 &&& (1 : Int32)) + ((P0 >>> ((1 : Int32) &&& 31)) &&& (1 : Int32))) + ((P0 >>> ((2 : Int32) &&& 31)) &&& (1 : Int32))) + ((P0 >>> ((3 : Int32) &&& 31)) &&& (1 : Int32)))), .val (.ref b231), .val (.int (((0 : Int32) + (1 : Int32)) + (1 : Int32)))] [(.int P4), (.int (((0 : Int32) + (1 : Int32)) + (1 : Int32))), (.ref b231)])) _
        refine st240 _ ?_
        show Steps p.tables e below (T240.setTop (mkF m 91 #[.val (.int P0), .val (.int P1), .val (.int P2), .val (.int P3), .val (.int P4), .val (.int ((((P0 &&& (1 : Int32)) + ((P0 >>> ((1 : Int32) &&& 31)) &&& (1 : Int32))) + ((P0 >>> ((2 : Int32) &&& 31)) &&& (1 : Int32))) + ((P0 >>> ((3 : Int32) &&& 31)) &&& (1 : Int32)))), .val (.ref b231), .val (.int (((0 : Int32) + (1 : Int32)) + (1 : Int32)))] [])) _
        refine XS.iinc X240.here hx rfl (hb hby d1_91) rfl (l' := #[.val (.int P0), .val (.int P1), .val (.int P2), .val (.int P3), .val (.int P4), .val (.int ((((P0 &&& (1 : Int32)) + ((P0 >>> ((1 : Int32) &&& 31)) &&& (1 : Int32))) + ((P0 >>> ((2 : Int32) &&& 31)) &&& (1 : Int32))) + ((P0 >>> ((3 : Int32) &&& 31)) &&& (1 : Int32)))), .val (.ref b231), .val (.int ((((0 : Int32) + (1 : Int32)) + (1 : Int32)) + (1 : Int32)))]) rfl ?_
        show Steps p.tables e below (T240.setTop (mkF m 94 #[.val (.int P0), .val (.int P1), .val (.int P2), .val (.int P3), .val (.int P4), .val (.int ((((P0 &&& (1 : Int32)) + ((P0 >>> ((1 : Int32) &&& 31)) &&& (1 : Int32))) + ((P0 >>> ((2 : Int32) &&& 31)) &&& (1 : Int32))) + ((P0 >>> ((3 : Int32) &&& 31)) &&& (1 : Int32)))), .val (.ref b231), .val (.int ((((0 : Int32) + (1 : Int32)) + (1 : Int32)) + (1 : Int32)))] [])) _
        refine XS.aload X240.here hx rfl (hb hby d1_94) rfl rfl ?_
        exact kt)
    have hsel : (own_sel P0 P1 P2 P3 P4).map Value.int = [(.int P2), (.int P3), (.int P4)] := by rw [hk, own_sel14]; rfl
    have c243 : Exa Z h240 b231 "[I" := (((EX231.wr W234).wr W237).wr W240)
    obtain ⟨fs, hr, hrun, hended, hW, hsame⟩ := X240.leave (v := some (.ref b231)) (fun h => by rw [Bd.returns] at h; cases h)
    refine ⟨_, _, pre242 _ ?_, hrun, hended, _, _, rfl, ?_, ⟨_, rfl⟩, hW, hsame.mono (by decide) (by decide)⟩
    · show Steps p.tables e below (T240.setTop (mkF m 96 #[.val (.int P0), .val (.int P1), .val (.int P2), .val (.int P3), .val (.int P4), .val (.int ((((P0 &&& (1 : Int32)) + ((P0 >>> ((1 : Int32) &&& 31)) &&& (1 : Int32))) + ((P0 >>> ((2 : Int32) &&& 31)) &&& (1 : Int32))) + ((P0 >>> ((3 : Int32) &&& 31)) &&& (1 : Int32)))), .val (.ref b231), .val (.int ((((0 : Int32) + (1 : Int32)) + (1 : Int32)) + (1 : Int32)))] [(.ref b231)])) _
      exact retOut X240 hx Bd.returns rfl (Or.inr (Or.inr (Or.inr (Or.inr ⟨rfl, rfl, rfl⟩)))) (hb hby d1_96) hr
    · show Q1 Z P0 P1 P2 P3 P4 h0 n0 _ T240.heap _
      rw [e240]
      exact ⟨b231, k231, rfl, N240, K_241, sz_b231, c243, (by rw [hsel]; exact V240)⟩
  · obtain ⟨T244, h244, k244, X244, e244, E244, A244, EX244, st244⟩ := newPE X0 hx hZ (hw _ (List.mem_of_getElem? (i := 8) rfl)) e0 (g := (mkF m 25 #[.val (.int P0), .val (.int P1), .val (.int P2), .val (.int P3), .val (.int P4), .val (.int ((((P0 &&& (1 : Int32)) + ((P0 >>> ((1 : Int32) &&& 31)) &&& (1 : Int32))) + ((P0 >>> ((2 : Int32) &&& 31)) &&& (1 : Int32))) + ((P0 >>> ((3 : Int32) &&& 31)) &&& (1 : Int32)))), .unset, .unset] [(.int ((((P0 &&& (1 : Int32)) + ((P0 >>> ((1 : Int32) &&& 31)) &&& (1 : Int32))) + ((P0 >>> ((2 : Int32) &&& 31)) &&& (1 : Int32))) + ((P0 >>> ((3 : Int32) &&& 31)) &&& (1 : Int32))))])) rfl (hb hby d1_25) rfl (by first | decide | (rw [hk]; decide)) (cap := 4) (by first | decide | (rw [hk]; decide)) (by decide) (by decide) (by decide) (ad := "[I") (by decide)
    obtain ⟨b244, q244⟩ : ∃ z, z = h0.size := ⟨_, rfl⟩
    rw [← q244] at A244 EX244 st244
    have g_b244 : n0 ≤ b244 := Nat.le_trans Z0 (Nat.le_of_eq q244.symm)
    have sz_b244 : h0.size ≤ b244 := Nat.le_trans K_0.1 (Nat.le_of_eq q244.symm)
    have Z245 : n0 ≤ h244.size := Nat.le_trans Z0 E244.1
    have K_245 : Keep h0 h244 [] := K_0.ext E244
    have V244 : Arv Z h244 b244 k244 .int ((((P0 &&& (1 : Int32)) + ((P0 >>> ((1 : Int32) &&& 31)) &&& (1 : Int32))) + ((P0 >>> ((2 : Int32) &&& 31)) &&& (1 : Int32))) + ((P0 >>> ((3 : Int32) &&& 31)) &&& (1 : Int32))) [(.int (0 : Int32)), (.int (0 : Int32)), (.int (0 : Int32)), (.int (0 : Int32))] (.int (0 : Int32)) := (Arv.new A244 (by first | decide | (rw [hk]; decide))).pad (pad_rep [] (.int (0 : Int32)) 4)
    obtain ⟨cl246, Ar246, q246, S246, N_246, H246, G246⟩ := id V244
    have hin246 : ¬ ((0 : Int32) < 0 ∨ cl246.slots.size ≤ ((0 : Int32)).toNatClampNeg) := inb_of S246 ⟨by first | decide | (rw [hk]; decide), by first | decide | (rw [hk]; decide)⟩
    obtain ⟨T247, h247, X247, e247, W247, st247⟩ := stI X244 hx hZ e244 Ar246 (j := (0 : Int32)) hin246 (g := (mkF m 43 #[.val (.int P0), .val (.int P1), .val (.int P2), .val (.int P3), .val (.int P4), .val (.int ((((P0 &&& (1 : Int32)) + ((P0 >>> ((1 : Int32) &&& 31)) &&& (1 : Int32))) + ((P0 >>> ((2 : Int32) &&& 31)) &&& (1 : Int32))) + ((P0 >>> ((3 : Int32) &&& 31)) &&& (1 : Int32)))), .val (.ref b244), .val (.int (0 : Int32))] [(.int P1), (.int (0 : Int32)), (.ref b244)])) rfl rfl (hb hby d1_43)
    have Z248 : n0 ≤ h247.size := Nat.le_trans Z245 (Nat.le_of_eq W247.size.symm)
    have K_248 : Keep h0 h247 [] := K_245.wr W247 (Or.inr sz_b244)
    have V247 : Arv Z h247 b244 k244 .int ((((P0 &&& (1 : Int32)) + ((P0 >>> ((1 : Int32) &&& 31)) &&& (1 : Int32))) + ((P0 >>> ((2 : Int32) &&& 31)) &&& (1 : Int32))) + ((P0 >>> ((3 : Int32) &&& 31)) &&& (1 : Int32))) [(.int P1), (.int (0 : Int32)), (.int (0 : Int32)), (.int (0 : Int32))] (.int (0 : Int32)) := Arv.set Ar246 q246 S246 N_246 H246 G246 rfl W247 0 rfl (Nat.le_of_ble_eq_true rfl)
    have N247 := Fr.snoc X247 N0 g_b244
    obtain ⟨cl249, Ar249, q249, S249, N_249, H249, G249⟩ := id V247
    have hin249 : ¬ (((0 : Int32) + (1 : Int32)) < 0 ∨ cl249.slots.size ≤ (((0 : Int32) + (1 : Int32))).toNatClampNeg) := inb_of S249 ⟨by first | decide | (rw [hk]; decide), by first | decide | (rw [hk]; decide)⟩
    obtain ⟨T250, h250, X250, e250, W250, st250⟩ := stI X247 hx hZ e247 Ar249 (j := ((0 : Int32) + (1 : Int32))) hin249 (g := (mkF m 58 #[.val (.int P0), .val (.int P1), .val (.int P2), .val (.int P3), .val (.int P4), .val (.int ((((P0 &&& (1 : Int32)) + ((P0 >>> ((1 : Int32) &&& 31)) &&& (1 : Int32))) + ((P0 >>> ((2 : Int32) &&& 31)) &&& (1 : Int32))) + ((P0 >>> ((3 : Int32) &&& 31)) &&& (1 : Int32)))), .val (.ref b244), .val (.int ((0 : Int32) + (1 : Int32)))] [(.int P2), (.int ((0 : Int32) + (1 : Int32))), (.ref b244)])) rfl rfl (hb hby d1_58)
    have Z251 : n0 ≤ h250.size := Nat.le_trans Z248 (Nat.le_of_eq W250.size.symm)
    have K_251 : Keep h0 h250 [] := K_248.wr W250 (Or.inr sz_b244)
    have V250 : Arv Z h250 b244 k244 .int ((((P0 &&& (1 : Int32)) + ((P0 >>> ((1 : Int32) &&& 31)) &&& (1 : Int32))) + ((P0 >>> ((2 : Int32) &&& 31)) &&& (1 : Int32))) + ((P0 >>> ((3 : Int32) &&& 31)) &&& (1 : Int32))) [(.int P1), (.int P2), (.int (0 : Int32)), (.int (0 : Int32))] (.int (0 : Int32)) := Arv.set Ar249 q249 S249 N_249 H249 G249 rfl W250 1 (by decide) (Nat.le_of_ble_eq_true rfl)
    have N250 := Fr.snoc X250 N247 g_b244
    obtain ⟨cl252, Ar252, q252, S252, N_252, H252, G252⟩ := id V250
    have hin252 : ¬ ((((0 : Int32) + (1 : Int32)) + (1 : Int32)) < 0 ∨ cl252.slots.size ≤ ((((0 : Int32) + (1 : Int32)) + (1 : Int32))).toNatClampNeg) := inb_of S252 ⟨by first | decide | (rw [hk]; decide), by first | decide | (rw [hk]; decide)⟩
    obtain ⟨T253, h253, X253, e253, W253, st253⟩ := stI X250 hx hZ e250 Ar252 (j := (((0 : Int32) + (1 : Int32)) + (1 : Int32))) hin252 (g := (mkF m 73 #[.val (.int P0), .val (.int P1), .val (.int P2), .val (.int P3), .val (.int P4), .val (.int ((((P0 &&& (1 : Int32)) + ((P0 >>> ((1 : Int32) &&& 31)) &&& (1 : Int32))) + ((P0 >>> ((2 : Int32) &&& 31)) &&& (1 : Int32))) + ((P0 >>> ((3 : Int32) &&& 31)) &&& (1 : Int32)))), .val (.ref b244), .val (.int (((0 : Int32) + (1 : Int32)) + (1 : Int32)))] [(.int P3), (.int (((0 : Int32) + (1 : Int32)) + (1 : Int32))), (.ref b244)])) rfl rfl (hb hby d1_73)
    have Z254 : n0 ≤ h253.size := Nat.le_trans Z251 (Nat.le_of_eq W253.size.symm)
    have K_254 : Keep h0 h253 [] := K_251.wr W253 (Or.inr sz_b244)
    have V253 : Arv Z h253 b244 k244 .int ((((P0 &&& (1 : Int32)) + ((P0 >>> ((1 : Int32) &&& 31)) &&& (1 : Int32))) + ((P0 >>> ((2 : Int32) &&& 31)) &&& (1 : Int32))) + ((P0 >>> ((3 : Int32) &&& 31)) &&& (1 : Int32))) [(.int P1), (.int P2), (.int P3), (.int (0 : Int32))] (.int (0 : Int32)) := Arv.set Ar252 q252 S252 N_252 H252 G252 rfl W253 2 (by decide) (Nat.le_of_ble_eq_true rfl)
    have N253 := Fr.snoc X253 N250 g_b244
    obtain ⟨cl255, Ar255, q255, S255, N_255, H255, G255⟩ := id V253
    have hin255 : ¬ (((((0 : Int32) + (1 : Int32)) + (1 : Int32)) + (1 : Int32)) < 0 ∨ cl255.slots.size ≤ (((((0 : Int32) + (1 : Int32)) + (1 : Int32)) + (1 : Int32))).toNatClampNeg) := inb_of S255 ⟨by first | decide | (rw [hk]; decide), by first | decide | (rw [hk]; decide)⟩
    obtain ⟨T256, h256, X256, e256, W256, st256⟩ := stI X253 hx hZ e253 Ar255 (j := ((((0 : Int32) + (1 : Int32)) + (1 : Int32)) + (1 : Int32))) hin255 (g := (mkF m 90 #[.val (.int P0), .val (.int P1), .val (.int P2), .val (.int P3), .val (.int P4), .val (.int ((((P0 &&& (1 : Int32)) + ((P0 >>> ((1 : Int32) &&& 31)) &&& (1 : Int32))) + ((P0 >>> ((2 : Int32) &&& 31)) &&& (1 : Int32))) + ((P0 >>> ((3 : Int32) &&& 31)) &&& (1 : Int32)))), .val (.ref b244), .val (.int ((((0 : Int32) + (1 : Int32)) + (1 : Int32)) + (1 : Int32)))] [(.int P4), (.int ((((0 : Int32) + (1 : Int32)) + (1 : Int32)) + (1 : Int32))), (.ref b244)])) rfl rfl (hb hby d1_90)
    have Z257 : n0 ≤ h256.size := Nat.le_trans Z254 (Nat.le_of_eq W256.size.symm)
    have K_257 : Keep h0 h256 [] := K_254.wr W256 (Or.inr sz_b244)
    have V256 : Arv Z h256 b244 k244 .int ((((P0 &&& (1 : Int32)) + ((P0 >>> ((1 : Int32) &&& 31)) &&& (1 : Int32))) + ((P0 >>> ((2 : Int32) &&& 31)) &&& (1 : Int32))) + ((P0 >>> ((3 : Int32) &&& 31)) &&& (1 : Int32))) [(.int P1), (.int P2), (.int P3), (.int P4)] (.int (0 : Int32)) := Arv.set Ar255 q255 S255 N_255 H255 G255 rfl W256 3 (by decide) (Nat.le_of_ble_eq_true rfl)
    have N256 := Fr.snoc X256 N253 g_b244
    have pre258 : ∀ t, Steps p.tables e below (T256.setTop (mkF m 96 #[.val (.int P0), .val (.int P1), .val (.int P2), .val (.int P3), .val (.int P4), .val (.int ((((P0 &&& (1 : Int32)) + ((P0 >>> ((1 : Int32) &&& 31)) &&& (1 : Int32))) + ((P0 >>> ((2 : Int32) &&& 31)) &&& (1 : Int32))) + ((P0 >>> ((3 : Int32) &&& 31)) &&& (1 : Int32)))), .val (.ref b244), .val (.int (((((0 : Int32) + (1 : Int32)) + (1 : Int32)) + (1 : Int32)) + (1 : Int32)))] [(.ref b244)])) t → Steps p.tables e below (s₁.setTop (entryFrame m #[(.int P0), (.int P1), (.int P2), (.int P3), (.int P4)] 8)) t := fun t kt => pre0 t (by
        show Steps p.tables e below (s₁.setTop (mkF m 0 #[.val (.int P0), .val (.int P1), .val (.int P2), .val (.int P3), .val (.int P4), .unset, .unset, .unset] [])) _
        refine XS.iloadN X0.here hx rfl (hb hby d1_0) rfl ?_
        show Steps p.tables e below (s₁.setTop (mkF m 1 #[.val (.int P0), .val (.int P1), .val (.int P2), .val (.int P3), .val (.int P4), .unset, .unset, .unset] [(.int P0)])) _
        refine XS.iconst X0.here hx rfl (hb hby d1_1) ?_
        show Steps p.tables e below (s₁.setTop (mkF m 2 #[.val (.int P0), .val (.int P1), .val (.int P2), .val (.int P3), .val (.int P4), .unset, .unset, .unset] [(.int (1 : Int32)), (.int P0)])) _
        refine XS.iand X0.here hx rfl (hb hby d1_2) rfl ?_
        show Steps p.tables e below (s₁.setTop (mkF m 3 #[.val (.int P0), .val (.int P1), .val (.int P2), .val (.int P3), .val (.int P4), .unset, .unset, .unset] [(.int (P0 &&& (1 : Int32)))])) _
        refine XS.iloadN X0.here hx rfl (hb hby d1_3) rfl ?_
        show Steps p.tables e below (s₁.setTop (mkF m 4 #[.val (.int P0), .val (.int P1), .val (.int P2), .val (.int P3), .val (.int P4), .unset, .unset, .unset] [(.int P0), (.int (P0 &&& (1 : Int32)))])) _
        refine XS.iconst X0.here hx rfl (hb hby d1_4) ?_
        show Steps p.tables e below (s₁.setTop (mkF m 5 #[.val (.int P0), .val (.int P1), .val (.int P2), .val (.int P3), .val (.int P4), .unset, .unset, .unset] [(.int (1 : Int32)), (.int P0), (.int (P0 &&& (1 : Int32)))])) _
        refine XS.ishr X0.here hx rfl (hb hby d1_5) rfl ?_
        show Steps p.tables e below (s₁.setTop (mkF m 6 #[.val (.int P0), .val (.int P1), .val (.int P2), .val (.int P3), .val (.int P4), .unset, .unset, .unset] [(.int (P0 >>> ((1 : Int32) &&& 31))), (.int (P0 &&& (1 : Int32)))])) _
        refine XS.iconst X0.here hx rfl (hb hby d1_6) ?_
        show Steps p.tables e below (s₁.setTop (mkF m 7 #[.val (.int P0), .val (.int P1), .val (.int P2), .val (.int P3), .val (.int P4), .unset, .unset, .unset] [(.int (1 : Int32)), (.int (P0 >>> ((1 : Int32) &&& 31))), (.int (P0 &&& (1 : Int32)))])) _
        refine XS.iand X0.here hx rfl (hb hby d1_7) rfl ?_
        show Steps p.tables e below (s₁.setTop (mkF m 8 #[.val (.int P0), .val (.int P1), .val (.int P2), .val (.int P3), .val (.int P4), .unset, .unset, .unset] [(.int ((P0 >>> ((1 : Int32) &&& 31)) &&& (1 : Int32))), (.int (P0 &&& (1 : Int32)))])) _
        refine XS.iadd X0.here hx rfl (hb hby d1_8) rfl ?_
        show Steps p.tables e below (s₁.setTop (mkF m 9 #[.val (.int P0), .val (.int P1), .val (.int P2), .val (.int P3), .val (.int P4), .unset, .unset, .unset] [(.int ((P0 &&& (1 : Int32)) + ((P0 >>> ((1 : Int32) &&& 31)) &&& (1 : Int32))))])) _
        refine XS.iloadN X0.here hx rfl (hb hby d1_9) rfl ?_
        show Steps p.tables e below (s₁.setTop (mkF m 10 #[.val (.int P0), .val (.int P1), .val (.int P2), .val (.int P3), .val (.int P4), .unset, .unset, .unset] [(.int P0), (.int ((P0 &&& (1 : Int32)) + ((P0 >>> ((1 : Int32) &&& 31)) &&& (1 : Int32))))])) _
        refine XS.iconst X0.here hx rfl (hb hby d1_10) ?_
        show Steps p.tables e below (s₁.setTop (mkF m 11 #[.val (.int P0), .val (.int P1), .val (.int P2), .val (.int P3), .val (.int P4), .unset, .unset, .unset] [(.int (2 : Int32)), (.int P0), (.int ((P0 &&& (1 : Int32)) + ((P0 >>> ((1 : Int32) &&& 31)) &&& (1 : Int32))))])) _
        refine XS.ishr X0.here hx rfl (hb hby d1_11) rfl ?_
        show Steps p.tables e below (s₁.setTop (mkF m 12 #[.val (.int P0), .val (.int P1), .val (.int P2), .val (.int P3), .val (.int P4), .unset, .unset, .unset] [(.int (P0 >>> ((2 : Int32) &&& 31))), (.int ((P0 &&& (1 : Int32)) + ((P0 >>> ((1 : Int32) &&& 31)) &&& (1 : Int32))))])) _
        refine XS.iconst X0.here hx rfl (hb hby d1_12) ?_
        show Steps p.tables e below (s₁.setTop (mkF m 13 #[.val (.int P0), .val (.int P1), .val (.int P2), .val (.int P3), .val (.int P4), .unset, .unset, .unset] [(.int (1 : Int32)), (.int (P0 >>> ((2 : Int32) &&& 31))), (.int ((P0 &&& (1 : Int32)) + ((P0 >>> ((1 : Int32) &&& 31)) &&& (1 : Int32))))])) _
        refine XS.iand X0.here hx rfl (hb hby d1_13) rfl ?_
        show Steps p.tables e below (s₁.setTop (mkF m 14 #[.val (.int P0), .val (.int P1), .val (.int P2), .val (.int P3), .val (.int P4), .unset, .unset, .unset] [(.int ((P0 >>> ((2 : Int32) &&& 31)) &&& (1 : Int32))), (.int ((P0 &&& (1 : Int32)) + ((P0 >>> ((1 : Int32) &&& 31)) &&& (1 : Int32))))])) _
        refine XS.iadd X0.here hx rfl (hb hby d1_14) rfl ?_
        show Steps p.tables e below (s₁.setTop (mkF m 15 #[.val (.int P0), .val (.int P1), .val (.int P2), .val (.int P3), .val (.int P4), .unset, .unset, .unset] [(.int (((P0 &&& (1 : Int32)) + ((P0 >>> ((1 : Int32) &&& 31)) &&& (1 : Int32))) + ((P0 >>> ((2 : Int32) &&& 31)) &&& (1 : Int32))))])) _
        refine XS.iloadN X0.here hx rfl (hb hby d1_15) rfl ?_
        show Steps p.tables e below (s₁.setTop (mkF m 16 #[.val (.int P0), .val (.int P1), .val (.int P2), .val (.int P3), .val (.int P4), .unset, .unset, .unset] [(.int P0), (.int (((P0 &&& (1 : Int32)) + ((P0 >>> ((1 : Int32) &&& 31)) &&& (1 : Int32))) + ((P0 >>> ((2 : Int32) &&& 31)) &&& (1 : Int32))))])) _
        refine XS.iconst X0.here hx rfl (hb hby d1_16) ?_
        show Steps p.tables e below (s₁.setTop (mkF m 17 #[.val (.int P0), .val (.int P1), .val (.int P2), .val (.int P3), .val (.int P4), .unset, .unset, .unset] [(.int (3 : Int32)), (.int P0), (.int (((P0 &&& (1 : Int32)) + ((P0 >>> ((1 : Int32) &&& 31)) &&& (1 : Int32))) + ((P0 >>> ((2 : Int32) &&& 31)) &&& (1 : Int32))))])) _
        refine XS.ishr X0.here hx rfl (hb hby d1_17) rfl ?_
        show Steps p.tables e below (s₁.setTop (mkF m 18 #[.val (.int P0), .val (.int P1), .val (.int P2), .val (.int P3), .val (.int P4), .unset, .unset, .unset] [(.int (P0 >>> ((3 : Int32) &&& 31))), (.int (((P0 &&& (1 : Int32)) + ((P0 >>> ((1 : Int32) &&& 31)) &&& (1 : Int32))) + ((P0 >>> ((2 : Int32) &&& 31)) &&& (1 : Int32))))])) _
        refine XS.iconst X0.here hx rfl (hb hby d1_18) ?_
        show Steps p.tables e below (s₁.setTop (mkF m 19 #[.val (.int P0), .val (.int P1), .val (.int P2), .val (.int P3), .val (.int P4), .unset, .unset, .unset] [(.int (1 : Int32)), (.int (P0 >>> ((3 : Int32) &&& 31))), (.int (((P0 &&& (1 : Int32)) + ((P0 >>> ((1 : Int32) &&& 31)) &&& (1 : Int32))) + ((P0 >>> ((2 : Int32) &&& 31)) &&& (1 : Int32))))])) _
        refine XS.iand X0.here hx rfl (hb hby d1_19) rfl ?_
        show Steps p.tables e below (s₁.setTop (mkF m 20 #[.val (.int P0), .val (.int P1), .val (.int P2), .val (.int P3), .val (.int P4), .unset, .unset, .unset] [(.int ((P0 >>> ((3 : Int32) &&& 31)) &&& (1 : Int32))), (.int (((P0 &&& (1 : Int32)) + ((P0 >>> ((1 : Int32) &&& 31)) &&& (1 : Int32))) + ((P0 >>> ((2 : Int32) &&& 31)) &&& (1 : Int32))))])) _
        refine XS.iadd X0.here hx rfl (hb hby d1_20) rfl ?_
        show Steps p.tables e below (s₁.setTop (mkF m 21 #[.val (.int P0), .val (.int P1), .val (.int P2), .val (.int P3), .val (.int P4), .unset, .unset, .unset] [(.int ((((P0 &&& (1 : Int32)) + ((P0 >>> ((1 : Int32) &&& 31)) &&& (1 : Int32))) + ((P0 >>> ((2 : Int32) &&& 31)) &&& (1 : Int32))) + ((P0 >>> ((3 : Int32) &&& 31)) &&& (1 : Int32))))])) _
        refine XS.istore X0.here hx rfl (hb hby d1_21) rfl (l' := #[.val (.int P0), .val (.int P1), .val (.int P2), .val (.int P3), .val (.int P4), .val (.int ((((P0 &&& (1 : Int32)) + ((P0 >>> ((1 : Int32) &&& 31)) &&& (1 : Int32))) + ((P0 >>> ((2 : Int32) &&& 31)) &&& (1 : Int32))) + ((P0 >>> ((3 : Int32) &&& 31)) &&& (1 : Int32)))), .unset, .unset]) rfl ?_
        show Steps p.tables e below (s₁.setTop (mkF m 23 #[.val (.int P0), .val (.int P1), .val (.int P2), .val (.int P3), .val (.int P4), .val (.int ((((P0 &&& (1 : Int32)) + ((P0 >>> ((1 : Int32) &&& 31)) &&& (1 : Int32))) + ((P0 >>> ((2 : Int32) &&& 31)) &&& (1 : Int32))) + ((P0 >>> ((3 : Int32) &&& 31)) &&& (1 : Int32)))), .unset, .unset] [])) _
        refine XS.iload X0.here hx rfl (hb hby d1_23) rfl ?_
        show Steps p.tables e below (s₁.setTop (mkF m 25 #[.val (.int P0), .val (.int P1), .val (.int P2), .val (.int P3), .val (.int P4), .val (.int ((((P0 &&& (1 : Int32)) + ((P0 >>> ((1 : Int32) &&& 31)) &&& (1 : Int32))) + ((P0 >>> ((2 : Int32) &&& 31)) &&& (1 : Int32))) + ((P0 >>> ((3 : Int32) &&& 31)) &&& (1 : Int32)))), .unset, .unset] [(.int ((((P0 &&& (1 : Int32)) + ((P0 >>> ((1 : Int32) &&& 31)) &&& (1 : Int32))) + ((P0 >>> ((2 : Int32) &&& 31)) &&& (1 : Int32))) + ((P0 >>> ((3 : Int32) &&& 31)) &&& (1 : Int32))))])) _
        refine st244 _ ?_
        show Steps p.tables e below (T244.setTop (mkF m 27 #[.val (.int P0), .val (.int P1), .val (.int P2), .val (.int P3), .val (.int P4), .val (.int ((((P0 &&& (1 : Int32)) + ((P0 >>> ((1 : Int32) &&& 31)) &&& (1 : Int32))) + ((P0 >>> ((2 : Int32) &&& 31)) &&& (1 : Int32))) + ((P0 >>> ((3 : Int32) &&& 31)) &&& (1 : Int32)))), .unset, .unset] [(.ref b244)])) _
        refine XS.astore X244.here hx rfl (hb hby d1_27) rfl rfl (l' := #[.val (.int P0), .val (.int P1), .val (.int P2), .val (.int P3), .val (.int P4), .val (.int ((((P0 &&& (1 : Int32)) + ((P0 >>> ((1 : Int32) &&& 31)) &&& (1 : Int32))) + ((P0 >>> ((2 : Int32) &&& 31)) &&& (1 : Int32))) + ((P0 >>> ((3 : Int32) &&& 31)) &&& (1 : Int32)))), .val (.ref b244), .unset]) rfl ?_
        show Steps p.tables e below (T244.setTop (mkF m 29 #[.val (.int P0), .val (.int P1), .val (.int P2), .val (.int P3), .val (.int P4), .val (.int ((((P0 &&& (1 : Int32)) + ((P0 >>> ((1 : Int32) &&& 31)) &&& (1 : Int32))) + ((P0 >>> ((2 : Int32) &&& 31)) &&& (1 : Int32))) + ((P0 >>> ((3 : Int32) &&& 31)) &&& (1 : Int32)))), .val (.ref b244), .unset] [])) _
        refine XS.iconst X244.here hx rfl (hb hby d1_29) ?_
        show Steps p.tables e below (T244.setTop (mkF m 30 #[.val (.int P0), .val (.int P1), .val (.int P2), .val (.int P3), .val (.int P4), .val (.int ((((P0 &&& (1 : Int32)) + ((P0 >>> ((1 : Int32) &&& 31)) &&& (1 : Int32))) + ((P0 >>> ((2 : Int32) &&& 31)) &&& (1 : Int32))) + ((P0 >>> ((3 : Int32) &&& 31)) &&& (1 : Int32)))), .val (.ref b244), .unset] [(.int (0 : Int32))])) _
        refine XS.istore X244.here hx rfl (hb hby d1_30) rfl (l' := #[.val (.int P0), .val (.int P1), .val (.int P2), .val (.int P3), .val (.int P4), .val (.int ((((P0 &&& (1 : Int32)) + ((P0 >>> ((1 : Int32) &&& 31)) &&& (1 : Int32))) + ((P0 >>> ((2 : Int32) &&& 31)) &&& (1 : Int32))) + ((P0 >>> ((3 : Int32) &&& 31)) &&& (1 : Int32)))), .val (.ref b244), .val (.int (0 : Int32))]) rfl ?_
        show Steps p.tables e below (T244.setTop (mkF m 32 #[.val (.int P0), .val (.int P1), .val (.int P2), .val (.int P3), .val (.int P4), .val (.int ((((P0 &&& (1 : Int32)) + ((P0 >>> ((1 : Int32) &&& 31)) &&& (1 : Int32))) + ((P0 >>> ((2 : Int32) &&& 31)) &&& (1 : Int32))) + ((P0 >>> ((3 : Int32) &&& 31)) &&& (1 : Int32)))), .val (.ref b244), .val (.int (0 : Int32))] [])) _
        refine XS.iloadN X244.here hx rfl (hb hby d1_32) rfl ?_
        show Steps p.tables e below (T244.setTop (mkF m 33 #[.val (.int P0), .val (.int P1), .val (.int P2), .val (.int P3), .val (.int P4), .val (.int ((((P0 &&& (1 : Int32)) + ((P0 >>> ((1 : Int32) &&& 31)) &&& (1 : Int32))) + ((P0 >>> ((2 : Int32) &&& 31)) &&& (1 : Int32))) + ((P0 >>> ((3 : Int32) &&& 31)) &&& (1 : Int32)))), .val (.ref b244), .val (.int (0 : Int32))] [(.int P0)])) _
        refine XS.iconst X244.here hx rfl (hb hby d1_33) ?_
        show Steps p.tables e below (T244.setTop (mkF m 34 #[.val (.int P0), .val (.int P1), .val (.int P2), .val (.int P3), .val (.int P4), .val (.int ((((P0 &&& (1 : Int32)) + ((P0 >>> ((1 : Int32) &&& 31)) &&& (1 : Int32))) + ((P0 >>> ((2 : Int32) &&& 31)) &&& (1 : Int32))) + ((P0 >>> ((3 : Int32) &&& 31)) &&& (1 : Int32)))), .val (.ref b244), .val (.int (0 : Int32))] [(.int (1 : Int32)), (.int P0)])) _
        refine XS.iand X244.here hx rfl (hb hby d1_34) rfl ?_
        show Steps p.tables e below (T244.setTop (mkF m 35 #[.val (.int P0), .val (.int P1), .val (.int P2), .val (.int P3), .val (.int P4), .val (.int ((((P0 &&& (1 : Int32)) + ((P0 >>> ((1 : Int32) &&& 31)) &&& (1 : Int32))) + ((P0 >>> ((2 : Int32) &&& 31)) &&& (1 : Int32))) + ((P0 >>> ((3 : Int32) &&& 31)) &&& (1 : Int32)))), .val (.ref b244), .val (.int (0 : Int32))] [(.int (P0 &&& (1 : Int32)))])) _
        refine XS.ifNo X244.here hx rfl (hb hby d1_35) rfl ((if0 _ _).trans (feq (show ¬ ((P0 &&& (1 : Int32)) = (0 : Int32)) from (by first | decide | (rw [hk]; decide)))).1) ?_
        show Steps p.tables e below (T244.setTop (mkF m 38 #[.val (.int P0), .val (.int P1), .val (.int P2), .val (.int P3), .val (.int P4), .val (.int ((((P0 &&& (1 : Int32)) + ((P0 >>> ((1 : Int32) &&& 31)) &&& (1 : Int32))) + ((P0 >>> ((2 : Int32) &&& 31)) &&& (1 : Int32))) + ((P0 >>> ((3 : Int32) &&& 31)) &&& (1 : Int32)))), .val (.ref b244), .val (.int (0 : Int32))] [])) _
        refine XS.aload X244.here hx rfl (hb hby d1_38) rfl rfl ?_
        show Steps p.tables e below (T244.setTop (mkF m 40 #[.val (.int P0), .val (.int P1), .val (.int P2), .val (.int P3), .val (.int P4), .val (.int ((((P0 &&& (1 : Int32)) + ((P0 >>> ((1 : Int32) &&& 31)) &&& (1 : Int32))) + ((P0 >>> ((2 : Int32) &&& 31)) &&& (1 : Int32))) + ((P0 >>> ((3 : Int32) &&& 31)) &&& (1 : Int32)))), .val (.ref b244), .val (.int (0 : Int32))] [(.ref b244)])) _
        refine XS.iload X244.here hx rfl (hb hby d1_40) rfl ?_
        show Steps p.tables e below (T244.setTop (mkF m 42 #[.val (.int P0), .val (.int P1), .val (.int P2), .val (.int P3), .val (.int P4), .val (.int ((((P0 &&& (1 : Int32)) + ((P0 >>> ((1 : Int32) &&& 31)) &&& (1 : Int32))) + ((P0 >>> ((2 : Int32) &&& 31)) &&& (1 : Int32))) + ((P0 >>> ((3 : Int32) &&& 31)) &&& (1 : Int32)))), .val (.ref b244), .val (.int (0 : Int32))] [(.int (0 : Int32)), (.ref b244)])) _
        refine XS.iloadN X244.here hx rfl (hb hby d1_42) rfl ?_
        show Steps p.tables e below (T244.setTop (mkF m 43 #[.val (.int P0), .val (.int P1), .val (.int P2), .val (.int P3), .val (.int P4), .val (.int ((((P0 &&& (1 : Int32)) + ((P0 >>> ((1 : Int32) &&& 31)) &&& (1 : Int32))) + ((P0 >>> ((2 : Int32) &&& 31)) &&& (1 : Int32))) + ((P0 >>> ((3 : Int32) &&& 31)) &&& (1 : Int32)))), .val (.ref b244), .val (.int (0 : Int32))] [(.int P1), (.int (0 : Int32)), (.ref b244)])) _
        refine st247 _ ?_
        show Steps p.tables e below (T247.setTop (mkF m 44 #[.val (.int P0), .val (.int P1), .val (.int P2), .val (.int P3), .val (.int P4), .val (.int ((((P0 &&& (1 : Int32)) + ((P0 >>> ((1 : Int32) &&& 31)) &&& (1 : Int32))) + ((P0 >>> ((2 : Int32) &&& 31)) &&& (1 : Int32))) + ((P0 >>> ((3 : Int32) &&& 31)) &&& (1 : Int32)))), .val (.ref b244), .val (.int (0 : Int32))] [])) _
        refine XS.iinc X247.here hx rfl (hb hby d1_44) rfl (l' := #[.val (.int P0), .val (.int P1), .val (.int P2), .val (.int P3), .val (.int P4), .val (.int ((((P0 &&& (1 : Int32)) + ((P0 >>> ((1 : Int32) &&& 31)) &&& (1 : Int32))) + ((P0 >>> ((2 : Int32) &&& 31)) &&& (1 : Int32))) + ((P0 >>> ((3 : Int32) &&& 31)) &&& (1 : Int32)))), .val (.ref b244), .val (.int ((0 : Int32) + (1 : Int32)))]) rfl ?_
        show Steps p.tables e below (T247.setTop (mkF m 47 #[.val (.int P0), .val (.int P1), .val (.int P2), .val (.int P3), .val (.int P4), .val (.int ((((P0 &&& (1 : Int32)) + ((P0 >>> ((1 : Int32) &&& 31)) &&& (1 : Int32))) + ((P0 >>> ((2 : Int32) &&& 31)) &&& (1 : Int32))) + ((P0 >>> ((3 : Int32) &&& 31)) &&& (1 : Int32)))), .val (.ref b244), .val (.int ((0 : Int32) + (1 : Int32)))] [])) _
        refine XS.iloadN X247.here hx rfl (hb hby d1_47) rfl ?_
        show Steps p.tables e below (T247.setTop (mkF m 48 #[.val (.int P0), .val (.int P1), .val (.int P2), .val (.int P3), .val (.int P4), .val (.int ((((P0 &&& (1 : Int32)) + ((P0 >>> ((1 : Int32) &&& 31)) &&& (1 : Int32))) + ((P0 >>> ((2 : Int32) &&& 31)) &&& (1 : Int32))) + ((P0 >>> ((3 : Int32) &&& 31)) &&& (1 : Int32)))), .val (.ref b244), .val (.int ((0 : Int32) + (1 : Int32)))] [(.int P0)])) _
        refine XS.iconst X247.here hx rfl (hb hby d1_48) ?_
        show Steps p.tables e below (T247.setTop (mkF m 49 #[.val (.int P0), .val (.int P1), .val (.int P2), .val (.int P3), .val (.int P4), .val (.int ((((P0 &&& (1 : Int32)) + ((P0 >>> ((1 : Int32) &&& 31)) &&& (1 : Int32))) + ((P0 >>> ((2 : Int32) &&& 31)) &&& (1 : Int32))) + ((P0 >>> ((3 : Int32) &&& 31)) &&& (1 : Int32)))), .val (.ref b244), .val (.int ((0 : Int32) + (1 : Int32)))] [(.int (2 : Int32)), (.int P0)])) _
        refine XS.iand X247.here hx rfl (hb hby d1_49) rfl ?_
        show Steps p.tables e below (T247.setTop (mkF m 50 #[.val (.int P0), .val (.int P1), .val (.int P2), .val (.int P3), .val (.int P4), .val (.int ((((P0 &&& (1 : Int32)) + ((P0 >>> ((1 : Int32) &&& 31)) &&& (1 : Int32))) + ((P0 >>> ((2 : Int32) &&& 31)) &&& (1 : Int32))) + ((P0 >>> ((3 : Int32) &&& 31)) &&& (1 : Int32)))), .val (.ref b244), .val (.int ((0 : Int32) + (1 : Int32)))] [(.int (P0 &&& (2 : Int32)))])) _
        refine XS.ifNo X247.here hx rfl (hb hby d1_50) rfl ((if0 _ _).trans (feq (show ¬ ((P0 &&& (2 : Int32)) = (0 : Int32)) from (by first | decide | (rw [hk]; decide)))).1) ?_
        show Steps p.tables e below (T247.setTop (mkF m 53 #[.val (.int P0), .val (.int P1), .val (.int P2), .val (.int P3), .val (.int P4), .val (.int ((((P0 &&& (1 : Int32)) + ((P0 >>> ((1 : Int32) &&& 31)) &&& (1 : Int32))) + ((P0 >>> ((2 : Int32) &&& 31)) &&& (1 : Int32))) + ((P0 >>> ((3 : Int32) &&& 31)) &&& (1 : Int32)))), .val (.ref b244), .val (.int ((0 : Int32) + (1 : Int32)))] [])) _
        refine XS.aload X247.here hx rfl (hb hby d1_53) rfl rfl ?_
        show Steps p.tables e below (T247.setTop (mkF m 55 #[.val (.int P0), .val (.int P1), .val (.int P2), .val (.int P3), .val (.int P4), .val (.int ((((P0 &&& (1 : Int32)) + ((P0 >>> ((1 : Int32) &&& 31)) &&& (1 : Int32))) + ((P0 >>> ((2 : Int32) &&& 31)) &&& (1 : Int32))) + ((P0 >>> ((3 : Int32) &&& 31)) &&& (1 : Int32)))), .val (.ref b244), .val (.int ((0 : Int32) + (1 : Int32)))] [(.ref b244)])) _
        refine XS.iload X247.here hx rfl (hb hby d1_55) rfl ?_
        show Steps p.tables e below (T247.setTop (mkF m 57 #[.val (.int P0), .val (.int P1), .val (.int P2), .val (.int P3), .val (.int P4), .val (.int ((((P0 &&& (1 : Int32)) + ((P0 >>> ((1 : Int32) &&& 31)) &&& (1 : Int32))) + ((P0 >>> ((2 : Int32) &&& 31)) &&& (1 : Int32))) + ((P0 >>> ((3 : Int32) &&& 31)) &&& (1 : Int32)))), .val (.ref b244), .val (.int ((0 : Int32) + (1 : Int32)))] [(.int ((0 : Int32) + (1 : Int32))), (.ref b244)])) _
        refine XS.iloadN X247.here hx rfl (hb hby d1_57) rfl ?_
        show Steps p.tables e below (T247.setTop (mkF m 58 #[.val (.int P0), .val (.int P1), .val (.int P2), .val (.int P3), .val (.int P4), .val (.int ((((P0 &&& (1 : Int32)) + ((P0 >>> ((1 : Int32) &&& 31)) &&& (1 : Int32))) + ((P0 >>> ((2 : Int32) &&& 31)) &&& (1 : Int32))) + ((P0 >>> ((3 : Int32) &&& 31)) &&& (1 : Int32)))), .val (.ref b244), .val (.int ((0 : Int32) + (1 : Int32)))] [(.int P2), (.int ((0 : Int32) + (1 : Int32))), (.ref b244)])) _
        refine st250 _ ?_
        show Steps p.tables e below (T250.setTop (mkF m 59 #[.val (.int P0), .val (.int P1), .val (.int P2), .val (.int P3), .val (.int P4), .val (.int ((((P0 &&& (1 : Int32)) + ((P0 >>> ((1 : Int32) &&& 31)) &&& (1 : Int32))) + ((P0 >>> ((2 : Int32) &&& 31)) &&& (1 : Int32))) + ((P0 >>> ((3 : Int32) &&& 31)) &&& (1 : Int32)))), .val (.ref b244), .val (.int ((0 : Int32) + (1 : Int32)))] [])) _
        refine XS.iinc X250.here hx rfl (hb hby d1_59) rfl (l' := #[.val (.int P0), .val (.int P1), .val (.int P2), .val (.int P3), .val (.int P4), .val (.int ((((P0 &&& (1 : Int32)) + ((P0 >>> ((1 : Int32) &&& 31)) &&& (1 : Int32))) + ((P0 >>> ((2 : Int32) &&& 31)) &&& (1 : Int32))) + ((P0 >>> ((3 : Int32) &&& 31)) &&& (1 : Int32)))), .val (.ref b244), .val (.int (((0 : Int32) + (1 : Int32)) + (1 : Int32)))]) rfl ?_
        show Steps p.tables e below (T250.setTop (mkF m 62 #[.val (.int P0), .val (.int P1), .val (.int P2), .val (.int P3), .val (.int P4), .val (.int ((((P0 &&& (1 : Int32)) + ((P0 >>> ((1 : Int32) &&& 31)) &&& (1 : Int32))) + ((P0 >>> ((2 : Int32) &&& 31)) &&& (1 : Int32))) + ((P0 >>> ((3 : Int32) &&& 31)) &&& (1 : Int32)))), .val (.ref b244), .val (.int (((0 : Int32) + (1 : Int32)) + (1 : Int32)))] [])) _
        refine XS.iloadN X250.here hx rfl (hb hby d1_62) rfl ?_
        show Steps p.tables e below (T250.setTop (mkF m 63 #[.val (.int P0), .val (.int P1), .val (.int P2), .val (.int P3), .val (.int P4), .val (.int ((((P0 &&& (1 : Int32)) + ((P0 >>> ((1 : Int32) &&& 31)) &&& (1 : Int32))) + ((P0 >>> ((2 : Int32) &&& 31)) &&& (1 : Int32))) + ((P0 >>> ((3 : Int32) &&& 31)) &&& (1 : Int32)))), .val (.ref b244), .val (.int (((0 : Int32) + (1 : Int32)) + (1 : Int32)))] [(.int P0)])) _
        refine XS.iconst X250.here hx rfl (hb hby d1_63) ?_
        show Steps p.tables e below (T250.setTop (mkF m 64 #[.val (.int P0), .val (.int P1), .val (.int P2), .val (.int P3), .val (.int P4), .val (.int ((((P0 &&& (1 : Int32)) + ((P0 >>> ((1 : Int32) &&& 31)) &&& (1 : Int32))) + ((P0 >>> ((2 : Int32) &&& 31)) &&& (1 : Int32))) + ((P0 >>> ((3 : Int32) &&& 31)) &&& (1 : Int32)))), .val (.ref b244), .val (.int (((0 : Int32) + (1 : Int32)) + (1 : Int32)))] [(.int (4 : Int32)), (.int P0)])) _
        refine XS.iand X250.here hx rfl (hb hby d1_64) rfl ?_
        show Steps p.tables e below (T250.setTop (mkF m 65 #[.val (.int P0), .val (.int P1), .val (.int P2), .val (.int P3), .val (.int P4), .val (.int ((((P0 &&& (1 : Int32)) + ((P0 >>> ((1 : Int32) &&& 31)) &&& (1 : Int32))) + ((P0 >>> ((2 : Int32) &&& 31)) &&& (1 : Int32))) + ((P0 >>> ((3 : Int32) &&& 31)) &&& (1 : Int32)))), .val (.ref b244), .val (.int (((0 : Int32) + (1 : Int32)) + (1 : Int32)))] [(.int (P0 &&& (4 : Int32)))])) _
        refine XS.ifNo X250.here hx rfl (hb hby d1_65) rfl ((if0 _ _).trans (feq (show ¬ ((P0 &&& (4 : Int32)) = (0 : Int32)) from (by first | decide | (rw [hk]; decide)))).1) ?_
        show Steps p.tables e below (T250.setTop (mkF m 68 #[.val (.int P0), .val (.int P1), .val (.int P2), .val (.int P3), .val (.int P4), .val (.int ((((P0 &&& (1 : Int32)) + ((P0 >>> ((1 : Int32) &&& 31)) &&& (1 : Int32))) + ((P0 >>> ((2 : Int32) &&& 31)) &&& (1 : Int32))) + ((P0 >>> ((3 : Int32) &&& 31)) &&& (1 : Int32)))), .val (.ref b244), .val (.int (((0 : Int32) + (1 : Int32)) + (1 : Int32)))] [])) _
        refine XS.aload X250.here hx rfl (hb hby d1_68) rfl rfl ?_
        show Steps p.tables e below (T250.setTop (mkF m 70 #[.val (.int P0), .val (.int P1), .val (.int P2), .val (.int P3), .val (.int P4), .val (.int ((((P0 &&& (1 : Int32)) + ((P0 >>> ((1 : Int32) &&& 31)) &&& (1 : Int32))) + ((P0 >>> ((2 : Int32) &&& 31)) &&& (1 : Int32))) + ((P0 >>> ((3 : Int32) &&& 31)) &&& (1 : Int32)))), .val (.ref b244), .val (.int (((0 : Int32) + (1 : Int32)) + (1 : Int32)))] [(.ref b244)])) _
        refine XS.iload X250.here hx rfl (hb hby d1_70) rfl ?_
        show Steps p.tables e below (T250.setTop (mkF m 72 #[.val (.int P0), .val (.int P1), .val (.int P2), .val (.int P3), .val (.int P4), .val (.int ((((P0 &&& (1 : Int32)) + ((P0 >>> ((1 : Int32) &&& 31)) &&& (1 : Int32))) + ((P0 >>> ((2 : Int32) &&& 31)) &&& (1 : Int32))) + ((P0 >>> ((3 : Int32) &&& 31)) &&& (1 : Int32)))), .val (.ref b244), .val (.int (((0 : Int32) + (1 : Int32)) + (1 : Int32)))] [(.int (((0 : Int32) + (1 : Int32)) + (1 : Int32))), (.ref b244)])) _
        refine XS.iloadN X250.here hx rfl (hb hby d1_72) rfl ?_
        show Steps p.tables e below (T250.setTop (mkF m 73 #[.val (.int P0), .val (.int P1), .val (.int P2), .val (.int P3), .val (.int P4), .val (.int ((((P0 &&& (1 : Int32)) + ((P0 >>> ((1 : Int32) &&& 31)) &&& (1 : Int32))) + ((P0 >>> ((2 : Int32) &&& 31)) &&& (1 : Int32))) + ((P0 >>> ((3 : Int32) &&& 31)) &&& (1 : Int32)))), .val (.ref b244), .val (.int (((0 : Int32) + (1 : Int32)) + (1 : Int32)))] [(.int P3), (.int (((0 : Int32) + (1 : Int32)) + (1 : Int32))), (.ref b244)])) _
        refine st253 _ ?_
        show Steps p.tables e below (T253.setTop (mkF m 74 #[.val (.int P0), .val (.int P1), .val (.int P2), .val (.int P3), .val (.int P4), .val (.int ((((P0 &&& (1 : Int32)) + ((P0 >>> ((1 : Int32) &&& 31)) &&& (1 : Int32))) + ((P0 >>> ((2 : Int32) &&& 31)) &&& (1 : Int32))) + ((P0 >>> ((3 : Int32) &&& 31)) &&& (1 : Int32)))), .val (.ref b244), .val (.int (((0 : Int32) + (1 : Int32)) + (1 : Int32)))] [])) _
        refine XS.iinc X253.here hx rfl (hb hby d1_74) rfl (l' := #[.val (.int P0), .val (.int P1), .val (.int P2), .val (.int P3), .val (.int P4), .val (.int ((((P0 &&& (1 : Int32)) + ((P0 >>> ((1 : Int32) &&& 31)) &&& (1 : Int32))) + ((P0 >>> ((2 : Int32) &&& 31)) &&& (1 : Int32))) + ((P0 >>> ((3 : Int32) &&& 31)) &&& (1 : Int32)))), .val (.ref b244), .val (.int ((((0 : Int32) + (1 : Int32)) + (1 : Int32)) + (1 : Int32)))]) rfl ?_
        show Steps p.tables e below (T253.setTop (mkF m 77 #[.val (.int P0), .val (.int P1), .val (.int P2), .val (.int P3), .val (.int P4), .val (.int ((((P0 &&& (1 : Int32)) + ((P0 >>> ((1 : Int32) &&& 31)) &&& (1 : Int32))) + ((P0 >>> ((2 : Int32) &&& 31)) &&& (1 : Int32))) + ((P0 >>> ((3 : Int32) &&& 31)) &&& (1 : Int32)))), .val (.ref b244), .val (.int ((((0 : Int32) + (1 : Int32)) + (1 : Int32)) + (1 : Int32)))] [])) _
        refine XS.iloadN X253.here hx rfl (hb hby d1_77) rfl ?_
        show Steps p.tables e below (T253.setTop (mkF m 78 #[.val (.int P0), .val (.int P1), .val (.int P2), .val (.int P3), .val (.int P4), .val (.int ((((P0 &&& (1 : Int32)) + ((P0 >>> ((1 : Int32) &&& 31)) &&& (1 : Int32))) + ((P0 >>> ((2 : Int32) &&& 31)) &&& (1 : Int32))) + ((P0 >>> ((3 : Int32) &&& 31)) &&& (1 : Int32)))), .val (.ref b244), .val (.int ((((0 : Int32) + (1 : Int32)) + (1 : Int32)) + (1 : Int32)))] [(.int P0)])) _
        refine XS.bipush X253.here hx rfl (hb hby d1_78) ?_
        show Steps p.tables e below (T253.setTop (mkF m 80 #[.val (.int P0), .val (.int P1), .val (.int P2), .val (.int P3), .val (.int P4), .val (.int ((((P0 &&& (1 : Int32)) + ((P0 >>> ((1 : Int32) &&& 31)) &&& (1 : Int32))) + ((P0 >>> ((2 : Int32) &&& 31)) &&& (1 : Int32))) + ((P0 >>> ((3 : Int32) &&& 31)) &&& (1 : Int32)))), .val (.ref b244), .val (.int ((((0 : Int32) + (1 : Int32)) + (1 : Int32)) + (1 : Int32)))] [(.int (8 : Int32)), (.int P0)])) _
        refine XS.iand X253.here hx rfl (hb hby d1_80) rfl ?_
        show Steps p.tables e below (T253.setTop (mkF m 81 #[.val (.int P0), .val (.int P1), .val (.int P2), .val (.int P3), .val (.int P4), .val (.int ((((P0 &&& (1 : Int32)) + ((P0 >>> ((1 : Int32) &&& 31)) &&& (1 : Int32))) + ((P0 >>> ((2 : Int32) &&& 31)) &&& (1 : Int32))) + ((P0 >>> ((3 : Int32) &&& 31)) &&& (1 : Int32)))), .val (.ref b244), .val (.int ((((0 : Int32) + (1 : Int32)) + (1 : Int32)) + (1 : Int32)))] [(.int (P0 &&& (8 : Int32)))])) _
        refine XS.ifNo X253.here hx rfl (hb hby d1_81) rfl ((if0 _ _).trans (feq (show ¬ ((P0 &&& (8 : Int32)) = (0 : Int32)) from (by first | decide | (rw [hk]; decide)))).1) ?_
        show Steps p.tables e below (T253.setTop (mkF m 84 #[.val (.int P0), .val (.int P1), .val (.int P2), .val (.int P3), .val (.int P4), .val (.int ((((P0 &&& (1 : Int32)) + ((P0 >>> ((1 : Int32) &&& 31)) &&& (1 : Int32))) + ((P0 >>> ((2 : Int32) &&& 31)) &&& (1 : Int32))) + ((P0 >>> ((3 : Int32) &&& 31)) &&& (1 : Int32)))), .val (.ref b244), .val (.int ((((0 : Int32) + (1 : Int32)) + (1 : Int32)) + (1 : Int32)))] [])) _
        refine XS.aload X253.here hx rfl (hb hby d1_84) rfl rfl ?_
        show Steps p.tables e below (T253.setTop (mkF m 86 #[.val (.int P0), .val (.int P1), .val (.int P2), .val (.int P3), .val (.int P4), .val (.int ((((P0 &&& (1 : Int32)) + ((P0 >>> ((1 : Int32) &&& 31)) &&& (1 : Int32))) + ((P0 >>> ((2 : Int32) &&& 31)) &&& (1 : Int32))) + ((P0 >>> ((3 : Int32) &&& 31)) &&& (1 : Int32)))), .val (.ref b244), .val (.int ((((0 : Int32) + (1 : Int32)) + (1 : Int32)) + (1 : Int32)))] [(.ref b244)])) _
        refine XS.iload X253.here hx rfl (hb hby d1_86) rfl ?_
        show Steps p.tables e below (T253.setTop (mkF m 88 #[.val (.int P0), .val (.int P1), .val (.int P2), .val (.int P3), .val (.int P4), .val (.int ((((P0 &&& (1 : Int32)) + ((P0 >>> ((1 : Int32) &&& 31)) &&& (1 : Int32))) + ((P0 >>> ((2 : Int32) &&& 31)) &&& (1 : Int32))) + ((P0 >>> ((3 : Int32) &&& 31)) &&& (1 : Int32)))), .val (.ref b244), .val (.int ((((0 : Int32) + (1 : Int32)) + (1 : Int32)) + (1 : Int32)))] [(.int ((((0 : Int32) + (1 : Int32)) + (1 : Int32)) + (1 : Int32))), (.ref b244)])) _
        refine XS.iload X253.here hx rfl (hb hby d1_88) rfl ?_
        show Steps p.tables e below (T253.setTop (mkF m 90 #[.val (.int P0), .val (.int P1), .val (.int P2), .val (.int P3), .val (.int P4), .val (.int ((((P0 &&& (1 : Int32)) + ((P0 >>> ((1 : Int32) &&& 31)) &&& (1 : Int32))) + ((P0 >>> ((2 : Int32) &&& 31)) &&& (1 : Int32))) + ((P0 >>> ((3 : Int32) &&& 31)) &&& (1 : Int32)))), .val (.ref b244), .val (.int ((((0 : Int32) + (1 : Int32)) + (1 : Int32)) + (1 : Int32)))] [(.int P4), (.int ((((0 : Int32) + (1 : Int32)) + (1 : Int32)) + (1 : Int32))), (.ref b244)])) _
        refine st256 _ ?_
        show Steps p.tables e below (T256.setTop (mkF m 91 #[.val (.int P0), .val (.int P1), .val (.int P2), .val (.int P3), .val (.int P4), .val (.int ((((P0 &&& (1 : Int32)) + ((P0 >>> ((1 : Int32) &&& 31)) &&& (1 : Int32))) + ((P0 >>> ((2 : Int32) &&& 31)) &&& (1 : Int32))) + ((P0 >>> ((3 : Int32) &&& 31)) &&& (1 : Int32)))), .val (.ref b244), .val (.int ((((0 : Int32) + (1 : Int32)) + (1 : Int32)) + (1 : Int32)))] [])) _
        refine XS.iinc X256.here hx rfl (hb hby d1_91) rfl (l' := #[.val (.int P0), .val (.int P1), .val (.int P2), .val (.int P3), .val (.int P4), .val (.int ((((P0 &&& (1 : Int32)) + ((P0 >>> ((1 : Int32) &&& 31)) &&& (1 : Int32))) + ((P0 >>> ((2 : Int32) &&& 31)) &&& (1 : Int32))) + ((P0 >>> ((3 : Int32) &&& 31)) &&& (1 : Int32)))), .val (.ref b244), .val (.int (((((0 : Int32) + (1 : Int32)) + (1 : Int32)) + (1 : Int32)) + (1 : Int32)))]) rfl ?_
        show Steps p.tables e below (T256.setTop (mkF m 94 #[.val (.int P0), .val (.int P1), .val (.int P2), .val (.int P3), .val (.int P4), .val (.int ((((P0 &&& (1 : Int32)) + ((P0 >>> ((1 : Int32) &&& 31)) &&& (1 : Int32))) + ((P0 >>> ((2 : Int32) &&& 31)) &&& (1 : Int32))) + ((P0 >>> ((3 : Int32) &&& 31)) &&& (1 : Int32)))), .val (.ref b244), .val (.int (((((0 : Int32) + (1 : Int32)) + (1 : Int32)) + (1 : Int32)) + (1 : Int32)))] [])) _
        refine XS.aload X256.here hx rfl (hb hby d1_94) rfl rfl ?_
        exact kt)
    have hsel : (own_sel P0 P1 P2 P3 P4).map Value.int = [(.int P1), (.int P2), (.int P3), (.int P4)] := by rw [hk, own_sel15]; rfl
    have c259 : Exa Z h256 b244 "[I" := ((((EX244.wr W247).wr W250).wr W253).wr W256)
    obtain ⟨fs, hr, hrun, hended, hW, hsame⟩ := X256.leave (v := some (.ref b244)) (fun h => by rw [Bd.returns] at h; cases h)
    refine ⟨_, _, pre258 _ ?_, hrun, hended, _, _, rfl, ?_, ⟨_, rfl⟩, hW, hsame.mono (by decide) (by decide)⟩
    · show Steps p.tables e below (T256.setTop (mkF m 96 #[.val (.int P0), .val (.int P1), .val (.int P2), .val (.int P3), .val (.int P4), .val (.int ((((P0 &&& (1 : Int32)) + ((P0 >>> ((1 : Int32) &&& 31)) &&& (1 : Int32))) + ((P0 >>> ((2 : Int32) &&& 31)) &&& (1 : Int32))) + ((P0 >>> ((3 : Int32) &&& 31)) &&& (1 : Int32)))), .val (.ref b244), .val (.int (((((0 : Int32) + (1 : Int32)) + (1 : Int32)) + (1 : Int32)) + (1 : Int32)))] [(.ref b244)])) _
      exact retOut X256 hx Bd.returns rfl (Or.inr (Or.inr (Or.inr (Or.inr ⟨rfl, rfl, rfl⟩)))) (hb hby d1_96) hr
    · show Q1 Z P0 P1 P2 P3 P4 h0 n0 _ T256.heap _
      rw [e256]
      exact ⟨b244, k244, rfl, N256, K_257, sz_b244, c259, (by rw [hsel]; exact V256)⟩
theorem d2_0 : decode prog_38_method_1_code 0 = .ok (.aload_n 0, 1) := by decide +kernel
theorem d2_1 : decode prog_38_method_1_code 1 = .ok (.invokespecial 1, 3) := by decide +kernel
theorem d2_4 : decode prog_38_method_1_code 4 = .ok (.aload_n 0, 1) := by decide +kernel
theorem d2_5 : decode prog_38_method_1_code 5 = .ok (.aload_n 1, 1) := by decide +kernel
theorem d2_6 : decode prog_38_method_1_code 6 = .ok (.putfield 7, 3) := by decide +kernel
theorem d2_9 : decode prog_38_method_1_code 9 = .ok (.aload_n 0, 1) := by decide +kernel
theorem d2_10 : decode prog_38_method_1_code 10 = .ok (.aload_n 1, 1) := by decide +kernel
theorem d2_11 : decode prog_38_method_1_code 11 = .ok (.invokestatic 13, 3) := by decide +kernel
theorem d2_14 : decode prog_38_method_1_code 14 = .ok (.putfield 19, 3) := by decide +kernel
theorem d2_17 : decode prog_38_method_1_code 17 = .ok (.return_, 1) := by decide +kernel
theorem pn_2 : plainName "com/example/postil/postil/domain/Conjunction" = true := by first | (simp [plainName, overriddenIn]; done) | decide +kernel
theorem pd_2_0 : parseMethodDescriptor "([I)I" = some ⟨[(.array .int)], some .int⟩ := by decide +kernel
theorem ef_2 (m : MethodId) (A0 : Addr) (A1 : Addr) : entryFrame m #[(.ref A0), (.ref A1)] 2 = mkF m 0 #[.val (.ref A0), .val (.ref A1)] [] := by first | (simp [entryFrame, mkF, argsToLocals, Value.category]; done) | rfl
def Q2 (Z : State) (A0 : Addr) (A1 : Addr) (W0 : Value) (W1 : Int32) (K0 : ClassId) (M0 : Int32) (L0 : List Int32) (h0 : Heap) (n0 : Nat) (v : Option Value) (h : Heap) (L : List Loc) : Prop := (v = none) ∧ (Fr n0 L) ∧ (Keep h0 h [A0]) ∧ (Exa Z h A0 "com/example/postil/postil/domain/Conjunction") ∧ (Fld Z h A0 "com/example/postil/postil/domain/Conjunction" "sources" "[I" (.ref A1))
set_option maxRecDepth 65536 in
set_option maxHeartbeats 40000000 in
theorem rm2 (l : Launch) (Z : State) (a0 : Array Value) (hw : ∀ d ∈ tables_1, d.before a0 Z = true) (ws : List Jvm.Cond) (A0 : Addr) (A1 : Addr) (W0 : Value) (W1 : Int32) (K0 : ClassId) (M0 : Int32) (L0 : List Int32) (h0 : Heap) (n0 : Nat) (Z0 : n0 ≤ h0.size) (pm0 : Fld Z h0 A0 "com/example/postil/postil/domain/Conjunction" "sources" "[I" W0) (pm1 : Fld Z h0 A0 "com/example/postil/postil/domain/Conjunction" "hash" "I" (.int W1)) (pm2 : Exa Z h0 A0 "com/example/postil/postil/domain/Conjunction") (pm3 : Arv Z h0 A1 K0 .int M0 (L0.map Value.int) (.int (0 : Int32))) (pm4 : Exa Z h0 A1 "[I") (hne : A1 ≠ A0) (g_A0 : n0 ≤ A0) :
    MetFree l (⟨"com/example/postil/postil/domain/Conjunction", "<init>", "([I)V"⟩ : MethodName) (head1 (Jvm.Cond.code (⟨"com/example/postil/postil/domain/Conjunction", "<init>", "([I)V"⟩ : MethodName) prog_38_method_1_code 2 none :: ws) ({ frames := 5, cells := 0, slots := 0, locals := 123 } : Room)) (fun a U => a = #[(.ref A0), (.ref A1)] ∧ Z.Warmed39 U.vm ∧ U.heap = h0) (fun _ _ _ _ _ => True) (fun _ U o U' => ∃ v L, o = .returned v ∧ Q2 Z A0 A1 W0 W1 K0 M0 L0 h0 n0 v U'.heap L ∧ FrameEnd U o U' L ({ frames := 5, cells := 0, slots := 0, locals := 123 } : Room).cells ({ frames := 5, cells := 0, slots := 0, locals := 123 } : Room).slots) := by
  refine MetFree.of_bodySF (plainFor_of_name pn_2) hisR ?_
  intro p e s m args below meth c s₁ Bd hml0 hP hK
  obtain ⟨rfl, hZ, hh⟩ := hP
  have hx := Bd.exec
  have hby := Bd.bytes
  have hml : c.maxLocals = 2 := hml0
  have hown : s.vm.findClass "com/example/postil/postil/domain/Conjunction" = some m.cls := findClass_of_methodNamed Bd.named
  have hnm := (name_of_methodNamed Bd.named Bd.method).1
  have X0 : Stand p l e ({ frames := 5, cells := 0, slots := 0, locals := 123 } : Room) s m #[(.ref A0), (.ref A1)] below meth c s₁ [] 0 0 := Stand.of_body Bd
  have e0 : s₁.heap = h0 := by rw [← hh, Bd.state]; rfl
  have N0 := Fr.nil n0
  have pre0 : ∀ t, Steps p.tables e below (s₁.setTop (mkF m 0 #[.val (.ref A0), .val (.ref A1)] [])) t → Steps p.tables e below (s₁.setTop (entryFrame m #[(.ref A0), (.ref A1)] 2)) t := fun t k => castTop (ef_2 m A0 A1) k
  have K_0 : Keep h0 h0 [A0] := Keep.refl h0 _
  obtain ⟨T101, X101, e101, st101⟩ := initO X0 hx hZ hown (hw _ (List.mem_of_getElem? (i := 15) rfl)) (hw _ (List.mem_of_getElem? (i := 16) rfl)) (hw _ (List.mem_of_getElem? (i := 17) rfl)) e0 (g := (mkF m 1 #[.val (.ref A0), .val (.ref A1)] [(.ref A0)])) rfl (by rw [hml]; rfl) rfl (hb hby d2_1) (by decide) (W := 0) (by show 2 * 0 + _ ≤ _; exact Nat.le_of_eq rfl) (by decide)
  obtain ⟨T102, h102, X102, e102, W102, st102⟩ := putF X101 hx hZ hown (host := "") (Or.inl (hw _ (List.mem_of_getElem? (i := 18) rfl))) Via.refl e101 pm0 pm2 (Or.inr ⟨(hw _ (List.mem_of_getElem? (i := 19) rfl)), rfl, hnm⟩) (hw _ (List.mem_of_getElem? (i := 10) rfl)) (ty := (.array .int)) (by decide) rfl rfl (g := (mkF m 6 #[.val (.ref A0), .val (.ref A1)] [(.ref A1), (.ref A0)])) rfl rfl (hb hby d2_6)
  have Z103 : n0 ≤ h102.size := Nat.le_trans Z0 (Nat.le_of_eq W102.size.symm)
  have K_103 : Keep h0 h102 [A0] := K_0.wr W102 (Or.inl (List.mem_of_getElem? (i := 0) rfl))
  have Fw102 : Fld Z h102 A0 "com/example/postil/postil/domain/Conjunction" "sources" "[I" (.ref A1) := pm0.same W102
  have N102 := Fr.snoc X102 N0 g_A0
  have c105 : Arv Z h102 A1 K0 .int M0 (L0.map Value.int) (.int (0 : Int32)) := (pm3.other W102 hne)
  have c106 : Exa Z h102 A1 "[I" := (pm4.wr W102)
  have htab : Hash.AHI.tab.before #[(.ref A0), (.ref A1)] s = true := own_tab hZ hw
  obtain ⟨cl104, Ar104, qc104, S104, N_104, H104, G104⟩ := c105
  obtain ⟨c2104, k2104, x1104, x2104, -⟩ := c106
  cases Ar104.1.symm.trans x1104
  have hP104 : ∀ vm₁, s.WarmedH vm₁ → Hash.AHI.P A1 cl104 #[.ref A1] (T102.setVm vm₁) := fun vm₁ hW₁ => ⟨rfl, (by show T102.heap[A1]? = _; rw [e102]; exact Ar104.1), State.isArrayOf_alike (wtrans (U := T102.setVm vm₁) hZ hW₁).alike Ar104.2.1, Ar104.2.2, (by rw [S104]; exact (back32 N_104).2), (fun i hi => by have h := H104 i hi; rw [own_getI] at h; rw [h]; simp [Jvm.Lib.StringLatin1.equals.intAt, h]), (by show (T102.setVm vm₁).vm.findClass "[I" = _; rw [(wtrans (U := T102.setVm vm₁) hZ hW₁).alike.findClass]; exact x2104)⟩
  obtain ⟨_, vm104, ⟨T104, L104, k104, n104⟩, hWm104, X104, ⟨⟨p1104, p2104, p3104, p4104⟩, rel104⟩, st104⟩ := Jvm.LawKit.callS X102 hx (y := Hash.ahiN) hown (mvT hZ (hw _ (List.mem_of_getElem? (i := 20) rfl))) (mvT hZ (hw _ (List.mem_of_getElem? (i := 21) rfl))) (mvT hZ (hw _ (List.mem_of_getElem? (i := 22) rfl))) (mvT hZ (hw _ (List.mem_of_getElem? (i := 23) rfl))) (by decide) (Hash.paidAHI (W := 1) (by decide) (by decide) htab) (g := (mkF m 11 #[.val (.ref A0), .val (.ref A1)] [(.ref A1), (.ref A0)])) rfl (by rw [hml]; rfl) (argsL := [.ref A1]) (rest := [(.ref A0)]) (lenOf pd_2_0 rfl) rfl (by show 2 * 0 + _ ≤ _; exact Nat.le_of_eq rfl) (hb hby d2_11) (fun vm₁ hW₁ => ⟨(by decide : 0 ≤ _), (by decide : 0 ≤ _), (A1, cl104), hP104 vm₁ hW₁⟩)
  obtain rfl := rel104 (A1, cl104) (hP104 vm104 hWm104)
  dsimp only [Pt.U, Pt.locs, Pt.cells, Pt.slots] at X104 p1104 p2104 p3104 p4104 st104
  subst p2104 p3104 p4104
  obtain ⟨hz104, ez104⟩ : ∃ z, z = Hash.hashInts (Jvm.Lib.StringLatin1.equals.intAt cl104) 0 cl104.slots.size 1 := ⟨_, rfl⟩
  rw [← ez104] at st104
  have ew104 : T104.heap = h102 := p1104.trans e102
  have c107 : Exa Z h102 A0 "com/example/postil/postil/domain/Conjunction" := (pm2.wr W102)
  have c108 : Fld Z h102 A0 "com/example/postil/postil/domain/Conjunction" "hash" "I" (.int W1) := (pm1.other W102 (Or.inr (slot_ne (Or.inr (hw _ (List.mem_of_getElem? (i := 25) rfl))) (Or.inr (hw _ (List.mem_of_getElem? (i := 19) rfl))) (by decide) (t := .int) (t' := (.array .int)) (by decide) (by decide))))
  obtain ⟨T109, h109, X109, e109, W109, st109⟩ := putF X104 hx hZ hown (host := "") (Or.inl (hw _ (List.mem_of_getElem? (i := 24) rfl))) Via.refl ew104 c108 c107 (Or.inr ⟨(hw _ (List.mem_of_getElem? (i := 25) rfl)), rfl, hnm⟩) (hw _ (List.mem_of_getElem? (i := 10) rfl)) (ty := .int) (by decide) rfl rfl (g := (mkF m 14 #[.val (.ref A0), .val (.ref A1)] [(.int hz104), (.ref A0)])) rfl rfl (hb hby d2_14)
  have Z110 : n0 ≤ h109.size := Nat.le_trans Z103 (Nat.le_of_eq W109.size.symm)
  have K_110 : Keep h0 h109 [A0] := K_103.wr W109 (Or.inl (List.mem_of_getElem? (i := 0) rfl))
  have Fw109 : Fld Z h109 A0 "com/example/postil/postil/domain/Conjunction" "hash" "I" (.int hz104) := c108.same W109
  have N109 := Fr.snoc X109 N102 g_A0
  have pre111 : ∀ t, Steps p.tables e below (T109.setTop (mkF m 17 #[.val (.ref A0), .val (.ref A1)] [])) t → Steps p.tables e below (s₁.setTop (entryFrame m #[(.ref A0), (.ref A1)] 2)) t := fun t kt => pre0 t (by
      show Steps p.tables e below (s₁.setTop (mkF m 0 #[.val (.ref A0), .val (.ref A1)] [])) _
      refine XS.aloadN X0.here hx rfl (hb hby d2_0) rfl rfl ?_
      show Steps p.tables e below (s₁.setTop (mkF m 1 #[.val (.ref A0), .val (.ref A1)] [(.ref A0)])) _
      refine st101 _ ?_
      show Steps p.tables e below (T101.setTop (mkF m 4 #[.val (.ref A0), .val (.ref A1)] [])) _
      refine XS.aloadN X101.here hx rfl (hb hby d2_4) rfl rfl ?_
      show Steps p.tables e below (T101.setTop (mkF m 5 #[.val (.ref A0), .val (.ref A1)] [(.ref A0)])) _
      refine XS.aloadN X101.here hx rfl (hb hby d2_5) rfl rfl ?_
      show Steps p.tables e below (T101.setTop (mkF m 6 #[.val (.ref A0), .val (.ref A1)] [(.ref A1), (.ref A0)])) _
      refine st102 _ ?_
      show Steps p.tables e below (T102.setTop (mkF m 9 #[.val (.ref A0), .val (.ref A1)] [])) _
      refine XS.aloadN X102.here hx rfl (hb hby d2_9) rfl rfl ?_
      show Steps p.tables e below (T102.setTop (mkF m 10 #[.val (.ref A0), .val (.ref A1)] [(.ref A0)])) _
      refine XS.aloadN X102.here hx rfl (hb hby d2_10) rfl rfl ?_
      show Steps p.tables e below (T102.setTop (mkF m 11 #[.val (.ref A0), .val (.ref A1)] [(.ref A1), (.ref A0)])) _
      refine st104 _ ?_
      show Steps p.tables e below (T104.setTop (mkF m 14 #[.val (.ref A0), .val (.ref A1)] [(.int hz104), (.ref A0)])) _
      refine st109 _ ?_
      exact kt)
  have c112 : Exa Z h109 A0 "com/example/postil/postil/domain/Conjunction" := (c107.wr W109)
  have c113 : Fld Z h109 A0 "com/example/postil/postil/domain/Conjunction" "sources" "[I" (.ref A1) := (Fw102.other W109 (Or.inr (slot_ne (Or.inr (hw _ (List.mem_of_getElem? (i := 19) rfl))) (Or.inr (hw _ (List.mem_of_getElem? (i := 25) rfl))) (by decide) (t := (.array .int)) (t' := .int) (by decide) (by decide))))
  obtain ⟨fs, hr, hrun, hended, hW, hsame⟩ := X109.leave (v := none) (fun _ => rfl)
  refine ⟨_, _, pre111 _ ?_, hrun, hended, _, _, rfl, ?_, ⟨_, rfl⟩, hW, hsame.mono (by decide) (by decide)⟩
  · show Steps p.tables e below (T109.setTop (mkF m 17 #[.val (.ref A0), .val (.ref A1)] [])) _
    exact X109.returnOut hx Bd.returns (hb hby d2_17) hr
  · show Q2 Z A0 A1 W0 W1 K0 M0 L0 h0 n0 _ T109.heap _
    rw [e109]
    exact ⟨rfl, N109, K_110, c112, c113⟩
theorem d5_42 : decode prog_38_method_6_code 42 = .ok (.iload_n 2, 1) := by decide +kernel
theorem d5_43 : decode prog_38_method_6_code 43 = .ok (.aload_n 0, 1) := by decide +kernel
theorem d5_44 : decode prog_38_method_6_code 44 = .ok (.getfield 7, 3) := by decide +kernel
theorem d5_47 : decode prog_38_method_6_code 47 = .ok (.arraylength, 1) := by decide +kernel
theorem d5_48 : decode prog_38_method_6_code 48 = .ok (.if_icmp .ge 20, 3) := by decide +kernel
theorem d5_51 : decode prog_38_method_6_code 51 = .ok (.aload_n 0, 1) := by decide +kernel
theorem d5_52 : decode prog_38_method_6_code 52 = .ok (.getfield 7, 3) := by decide +kernel
theorem d5_55 : decode prog_38_method_6_code 55 = .ok (.iload_n 2, 1) := by decide +kernel
theorem d5_56 : decode prog_38_method_6_code 56 = .ok (.iaload, 1) := by decide +kernel
theorem d5_57 : decode prog_38_method_6_code 57 = .ok (.iload 6, 2) := by decide +kernel
theorem d5_59 : decode prog_38_method_6_code 59 = .ok (.if_icmp .ge 9, 3) := by decide +kernel
theorem d5_62 : decode prog_38_method_6_code 62 = .ok (.iinc 2 1, 3) := by decide +kernel
theorem d5_65 : decode prog_38_method_6_code 65 = .ok (.goto (-23), 3) := by decide +kernel
set_option maxRecDepth 65536 in
set_option maxHeartbeats 40000000 in
theorem lpin {p : Program} {l : Launch} {e : Env} {s : State} {m : MethodId} {args : Array Value} {below : List Frame} {meth : Method} {c : Code} {Z : State} {a0 : Array Value} {h0 : Heap} {n0 : Nat} (A0 : Addr) (A1 : Addr) (S0 : Addr) (S1 : Addr) (K0 : ClassId) (K1 : ClassId) (M0 : Int32) (M1 : Int32) (L0 : List Int32) (L1 : List Int32) (J X : Int32)
    (hx : p.tables.exec = Jvm.exec) (hZ : Z.Warmed39 s.vm) (hw : ∀ d ∈ tables_1, d.before a0 Z = true) (hby : c.code = prog_38_method_6_code) (hml : c.maxLocals = 7) (hown : s.vm.findClass "com/example/postil/postil/domain/Conjunction" = some m.cls) (pm0 : Fld Z h0 A0 "com/example/postil/postil/domain/Conjunction" "sources" "[I" (.ref S0)) (pm1 : Fld Z h0 A1 "com/example/postil/postil/domain/Conjunction" "sources" "[I" (.ref S1)) (pm2 : Arv Z h0 S0 K0 .int M0 (L0.map Value.int) (.int (0 : Int32))) (pm3 : Arv Z h0 S1 K1 .int M1 (L1.map Value.int) (.int (0 : Int32))) (h0n : (M0).toInt = ((L0.length : Nat) : Int)) (h1n : (M1).toInt = ((L1.length : Nat) : Int)) (hl0 : L0.length ≤ 4) (hl1 : L1.length ≤ 4) :
    ∀ (n : Nat) (k : Nat) (T0 : State) (locs : List Loc) (X0 : Stand p l e ({ frames := 0, cells := 0, slots := 0, locals := 0 } : Room) s m args below meth c T0 locs 0 0) (e0 : T0.heap = h0) (N0 : Fr n0 locs) (hk : k + n = L0.length),
    ∃ (T' : State) (locs' : List Loc), Stand p l e ({ frames := 0, cells := 0, slots := 0, locals := 0 } : Room) s m args below meth c T' locs' 0 0 ∧ Fr n0 locs' ∧ T'.heap = h0 ∧ ∀ t, Steps p.tables e below (T'.setTop (mkF m 68 #[.val (.ref A0), .val (.ref A1), .val (.int (Int32.ofNat (own_sk (fun q => decide (L0.getD q 0 < X)) k n))), .val (.ref S1), .val (.int M1), .val (.int J), .val (.int X)] [])) t → Steps p.tables e below (T0.setTop (mkF m 42 #[.val (.ref A0), .val (.ref A1), .val (.int (Int32.ofNat k)), .val (.ref S1), .val (.int M1), .val (.int J), .val (.int X)] [])) t := by
  intro n
  induction n with
  | zero =>
    intro k T0 locs X0 e0 N0 hk
    have pre0 : ∀ t, Steps p.tables e below (T0.setTop (mkF m 42 #[.val (.ref A0), .val (.ref A1), .val (.int (Int32.ofNat k)), .val (.ref S1), .val (.int M1), .val (.int J), .val (.int X)] [])) t → Steps p.tables e below (T0.setTop (mkF m 42 #[.val (.ref A0), .val (.ref A1), .val (.int (Int32.ofNat k)), .val (.ref S1), .val (.int M1), .val (.int J), .val (.int X)] [])) t := fun t k => k
    obtain ⟨T4001, X4001, e4001, st4001⟩ := getF X0 hx hZ hown (host := "") (Or.inl (hw _ (List.mem_of_getElem? (i := 18) rfl))) Via.refl e0 pm0 (g := (mkF m 44 #[.val (.ref A0), .val (.ref A1), .val (.int (Int32.ofNat k)), .val (.ref S1), .val (.int M1), .val (.int J), .val (.int X)] [(.ref A0), (.int (Int32.ofNat k))])) rfl rfl (hb hby d5_44)
    obtain ⟨cl4002, Ar4002, -, S4002, N_4002, -, -⟩ := id pm2
    have pre4003 : ∀ t, Steps p.tables e below (T4001.setTop (mkF m 68 #[.val (.ref A0), .val (.ref A1), .val (.int (Int32.ofNat k)), .val (.ref S1), .val (.int M1), .val (.int J), .val (.int X)] [])) t → Steps p.tables e below (T0.setTop (mkF m 42 #[.val (.ref A0), .val (.ref A1), .val (.int (Int32.ofNat k)), .val (.ref S1), .val (.int M1), .val (.int J), .val (.int X)] [])) t := fun t kt => pre0 t (by
        show Steps p.tables e below (T0.setTop (mkF m 42 #[.val (.ref A0), .val (.ref A1), .val (.int (Int32.ofNat k)), .val (.ref S1), .val (.int M1), .val (.int J), .val (.int X)] [])) _
        refine XS.iloadN X0.here hx rfl (hb hby d5_42) rfl ?_
        show Steps p.tables e below (T0.setTop (mkF m 43 #[.val (.ref A0), .val (.ref A1), .val (.int (Int32.ofNat k)), .val (.ref S1), .val (.int M1), .val (.int J), .val (.int X)] [(.int (Int32.ofNat k))])) _
        refine XS.aloadN X0.here hx rfl (hb hby d5_43) rfl rfl ?_
        show Steps p.tables e below (T0.setTop (mkF m 44 #[.val (.ref A0), .val (.ref A1), .val (.int (Int32.ofNat k)), .val (.ref S1), .val (.int M1), .val (.int J), .val (.int X)] [(.ref A0), (.int (Int32.ofNat k))])) _
        refine st4001 _ ?_
        show Steps p.tables e below (T4001.setTop (mkF m 47 #[.val (.ref A0), .val (.ref A1), .val (.int (Int32.ofNat k)), .val (.ref S1), .val (.int M1), .val (.int J), .val (.int X)] [(.ref S0), (.int (Int32.ofNat k))])) _
        refine X4001.arraylength hx (by rw [e4001]; exact Ar4002.1) (State.isArrayOf_alike hZ.alike Ar4002.2.1) (g := (mkF m 47 #[.val (.ref A0), .val (.ref A1), .val (.int (Int32.ofNat k)), .val (.ref S1), .val (.int M1), .val (.int J), .val (.int X)] [(.ref S0), (.int (Int32.ofNat k))])) rfl rfl (hb hby d5_47) _ ?_
        rw [len_of S4002 N_4002]
        show Steps p.tables e below (T4001.setTop (mkF m 48 #[.val (.ref A0), .val (.ref A1), .val (.int (Int32.ofNat k)), .val (.ref S1), .val (.int M1), .val (.int J), .val (.int X)] [(.int M0), (.int (Int32.ofNat k))])) _
        refine XS.icmpYes X4001.here hx rfl (pc0 := 48) (pc' := 68) rfl (hb hby d5_48) rfl (flt (show ¬ ((Int32.ofNat k) < M0) from (fun q => absurd ((own_lt h0n (by omega)).mp q) (by omega)))).2.1 (by decide) (by decide) ?_
        exact kt)
    have hv : (own_sk (fun q => decide (L0.getD q 0 < X)) k 0) = k := rfl
    rw [hv]
    exact ⟨T4001, _, X4001, N0, e4001, pre4003⟩
  | succ n ih =>
    intro k T0 locs X0 e0 N0 hk
    have pre0 : ∀ t, Steps p.tables e below (T0.setTop (mkF m 42 #[.val (.ref A0), .val (.ref A1), .val (.int (Int32.ofNat k)), .val (.ref S1), .val (.int M1), .val (.int J), .val (.int X)] [])) t → Steps p.tables e below (T0.setTop (mkF m 42 #[.val (.ref A0), .val (.ref A1), .val (.int (Int32.ofNat k)), .val (.ref S1), .val (.int M1), .val (.int J), .val (.int X)] [])) t := fun t k => k
    obtain ⟨T5001, X5001, e5001, st5001⟩ := getF X0 hx hZ hown (host := "") (Or.inl (hw _ (List.mem_of_getElem? (i := 18) rfl))) Via.refl e0 pm0 (g := (mkF m 44 #[.val (.ref A0), .val (.ref A1), .val (.int (Int32.ofNat k)), .val (.ref S1), .val (.int M1), .val (.int J), .val (.int X)] [(.ref A0), (.int (Int32.ofNat k))])) rfl rfl (hb hby d5_44)
    obtain ⟨cl5002, Ar5002, -, S5002, N_5002, -, -⟩ := id pm2
    obtain ⟨T5003, X5003, e5003, st5003⟩ := getF X5001 hx hZ hown (host := "") (Or.inl (hw _ (List.mem_of_getElem? (i := 18) rfl))) Via.refl e5001 pm0 (g := (mkF m 52 #[.val (.ref A0), .val (.ref A1), .val (.int (Int32.ofNat k)), .val (.ref S1), .val (.int M1), .val (.int J), .val (.int X)] [(.ref A0)])) rfl rfl (hb hby d5_52)
    obtain ⟨cl5004, Ar5004, q5004, S5004, N_5004, H5004, G5004⟩ := id pm2
    have hb5004 : k < L0.length := by omega
    have hh5004 : k < 100 := by omega
    have hin5004 : ¬ ((Int32.ofNat k) < 0 ∨ cl5004.slots.size ≤ ((Int32.ofNat k)).toNatClampNeg) := inb_of S5004 ⟨own_nn hh5004, (own_lt h0n hh5004).mpr hb5004⟩
    have pre5005 : ∀ t, Steps p.tables e below (T5003.setTop (mkF m 59 #[.val (.ref A0), .val (.ref A1), .val (.int (Int32.ofNat k)), .val (.ref S1), .val (.int M1), .val (.int J), .val (.int X)] [(.int X), (.int (L0.getD k 0))])) t → Steps p.tables e below (T0.setTop (mkF m 42 #[.val (.ref A0), .val (.ref A1), .val (.int (Int32.ofNat k)), .val (.ref S1), .val (.int M1), .val (.int J), .val (.int X)] [])) t := fun t kt => pre0 t (by
        show Steps p.tables e below (T0.setTop (mkF m 42 #[.val (.ref A0), .val (.ref A1), .val (.int (Int32.ofNat k)), .val (.ref S1), .val (.int M1), .val (.int J), .val (.int X)] [])) _
        refine XS.iloadN X0.here hx rfl (hb hby d5_42) rfl ?_
        show Steps p.tables e below (T0.setTop (mkF m 43 #[.val (.ref A0), .val (.ref A1), .val (.int (Int32.ofNat k)), .val (.ref S1), .val (.int M1), .val (.int J), .val (.int X)] [(.int (Int32.ofNat k))])) _
        refine XS.aloadN X0.here hx rfl (hb hby d5_43) rfl rfl ?_
        show Steps p.tables e below (T0.setTop (mkF m 44 #[.val (.ref A0), .val (.ref A1), .val (.int (Int32.ofNat k)), .val (.ref S1), .val (.int M1), .val (.int J), .val (.int X)] [(.ref A0), (.int (Int32.ofNat k))])) _
        refine st5001 _ ?_
        show Steps p.tables e below (T5001.setTop (mkF m 47 #[.val (.ref A0), .val (.ref A1), .val (.int (Int32.ofNat k)), .val (.ref S1), .val (.int M1), .val (.int J), .val (.int X)] [(.ref S0), (.int (Int32.ofNat k))])) _
        refine X5001.arraylength hx (by rw [e5001]; exact Ar5002.1) (State.isArrayOf_alike hZ.alike Ar5002.2.1) (g := (mkF m 47 #[.val (.ref A0), .val (.ref A1), .val (.int (Int32.ofNat k)), .val (.ref S1), .val (.int M1), .val (.int J), .val (.int X)] [(.ref S0), (.int (Int32.ofNat k))])) rfl rfl (hb hby d5_47) _ ?_
        rw [len_of S5002 N_5002]
        show Steps p.tables e below (T5001.setTop (mkF m 48 #[.val (.ref A0), .val (.ref A1), .val (.int (Int32.ofNat k)), .val (.ref S1), .val (.int M1), .val (.int J), .val (.int X)] [(.int M0), (.int (Int32.ofNat k))])) _
        refine XS.icmpNo X5001.here hx rfl (hb hby d5_48) rfl (tlt (show (Int32.ofNat k) < M0 from ((own_lt h0n (by omega)).mpr (by omega)))).2.1 ?_
        show Steps p.tables e below (T5001.setTop (mkF m 51 #[.val (.ref A0), .val (.ref A1), .val (.int (Int32.ofNat k)), .val (.ref S1), .val (.int M1), .val (.int J), .val (.int X)] [])) _
        refine XS.aloadN X5001.here hx rfl (hb hby d5_51) rfl rfl ?_
        show Steps p.tables e below (T5001.setTop (mkF m 52 #[.val (.ref A0), .val (.ref A1), .val (.int (Int32.ofNat k)), .val (.ref S1), .val (.int M1), .val (.int J), .val (.int X)] [(.ref A0)])) _
        refine st5003 _ ?_
        show Steps p.tables e below (T5003.setTop (mkF m 55 #[.val (.ref A0), .val (.ref A1), .val (.int (Int32.ofNat k)), .val (.ref S1), .val (.int M1), .val (.int J), .val (.int X)] [(.ref S0)])) _
        refine XS.iloadN X5003.here hx rfl (hb hby d5_55) rfl ?_
        show Steps p.tables e below (T5003.setTop (mkF m 56 #[.val (.ref A0), .val (.ref A1), .val (.int (Int32.ofNat k)), .val (.ref S1), .val (.int M1), .val (.int J), .val (.int X)] [(.int (Int32.ofNat k)), (.ref S0)])) _
        refine X5003.iaload hx (j := (Int32.ofNat k)) (v := (.int (L0.getD k 0))) (by rw [e5003]; exact Ar5004.1) (State.isArrayOf_alike hZ.alike Ar5004.2.1) Ar5004.2.2 hin5004 (H5004.at hin5004 (own_getL L0 hh5004)) (g := (mkF m 56 #[.val (.ref A0), .val (.ref A1), .val (.int (Int32.ofNat k)), .val (.ref S1), .val (.int M1), .val (.int J), .val (.int X)] [(.int (Int32.ofNat k)), (.ref S0)])) rfl rfl (hb hby d5_56) _ ?_
        show Steps p.tables e below (T5003.setTop (mkF m 57 #[.val (.ref A0), .val (.ref A1), .val (.int (Int32.ofNat k)), .val (.ref S1), .val (.int M1), .val (.int J), .val (.int X)] [(.int (L0.getD k 0))])) _
        refine XS.iload X5003.here hx rfl (hb hby d5_57) rfl ?_
        exact kt)
    by_cases hc59 : (L0.getD k 0) < X
    · have pre5006 : ∀ t, Steps p.tables e below (T5003.setTop (mkF m 42 #[.val (.ref A0), .val (.ref A1), .val (.int ((Int32.ofNat k) + (1 : Int32))), .val (.ref S1), .val (.int M1), .val (.int J), .val (.int X)] [])) t → Steps p.tables e below (T0.setTop (mkF m 42 #[.val (.ref A0), .val (.ref A1), .val (.int (Int32.ofNat k)), .val (.ref S1), .val (.int M1), .val (.int J), .val (.int X)] [])) t := fun t kt => pre5005 t (by
          show Steps p.tables e below (T5003.setTop (mkF m 59 #[.val (.ref A0), .val (.ref A1), .val (.int (Int32.ofNat k)), .val (.ref S1), .val (.int M1), .val (.int J), .val (.int X)] [(.int X), (.int (L0.getD k 0))])) _
          refine XS.icmpNo X5003.here hx rfl (hb hby d5_59) rfl (tlt hc59).2.1 ?_
          show Steps p.tables e below (T5003.setTop (mkF m 62 #[.val (.ref A0), .val (.ref A1), .val (.int (Int32.ofNat k)), .val (.ref S1), .val (.int M1), .val (.int J), .val (.int X)] [])) _
          refine XS.iinc X5003.here hx rfl (hb hby d5_62) rfl (l' := #[.val (.ref A0), .val (.ref A1), .val (.int ((Int32.ofNat k) + (1 : Int32))), .val (.ref S1), .val (.int M1), .val (.int J), .val (.int X)]) rfl ?_
          show Steps p.tables e below (T5003.setTop (mkF m 65 #[.val (.ref A0), .val (.ref A1), .val (.int ((Int32.ofNat k) + (1 : Int32))), .val (.ref S1), .val (.int M1), .val (.int J), .val (.int X)] [])) _
          refine XS.goto X5003.here hx rfl (pc0 := 65) (pc' := 42) rfl (hb hby d5_65) (by decide) (by decide) ?_
          exact kt)
      have pre5007 : ∀ t, Steps p.tables e below (T5003.setTop (mkF m 42 #[.val (.ref A0), .val (.ref A1), .val (.int (Int32.ofNat (k + 1))), .val (.ref S1), .val (.int M1), .val (.int J), .val (.int X)] [])) t → Steps p.tables e below (T0.setTop (mkF m 42 #[.val (.ref A0), .val (.ref A1), .val (.int (Int32.ofNat k)), .val (.ref S1), .val (.int M1), .val (.int J), .val (.int X)] [])) t := fun t kt => pre5006 t (by rw [show ((Int32.ofNat k) + (1 : Int32)) = (Int32.ofNat (k + 1)) from own_suc k]; exact kt)
      obtain ⟨T5008, lc5008, X5008, N5008, e5008, st5008⟩ := ih (k + 1) T5003 _ X5003 e5003 N0 (by omega)
      have hv : (own_sk (fun q => decide (L0.getD q 0 < X)) k (n + 1)) = (own_sk (fun q => decide (L0.getD q 0 < X)) (k + 1) n) := by rw [own_sk, if_pos (decide_eq_true hc59)]
      rw [hv]
      exact ⟨T5008, lc5008, X5008, N5008, e5008, fun t kt => pre5007 t (st5008 t kt)⟩
    · have pre5009 : ∀ t, Steps p.tables e below (T5003.setTop (mkF m 68 #[.val (.ref A0), .val (.ref A1), .val (.int (Int32.ofNat k)), .val (.ref S1), .val (.int M1), .val (.int J), .val (.int X)] [])) t → Steps p.tables e below (T0.setTop (mkF m 42 #[.val (.ref A0), .val (.ref A1), .val (.int (Int32.ofNat k)), .val (.ref S1), .val (.int M1), .val (.int J), .val (.int X)] [])) t := fun t kt => pre5005 t (by
          show Steps p.tables e below (T5003.setTop (mkF m 59 #[.val (.ref A0), .val (.ref A1), .val (.int (Int32.ofNat k)), .val (.ref S1), .val (.int M1), .val (.int J), .val (.int X)] [(.int X), (.int (L0.getD k 0))])) _
          refine XS.icmpYes X5003.here hx rfl (pc0 := 59) (pc' := 68) rfl (hb hby d5_59) rfl (flt hc59).2.1 (by decide) (by decide) ?_
          exact kt)
      have hv : (own_sk (fun q => decide (L0.getD q 0 < X)) k (n + 1)) = k := by rw [own_sk, if_neg (fun q => hc59 (of_decide_eq_true q))]
      rw [hv]
      exact ⟨T5003, _, X5003, N0, e5003, pre5009⟩
theorem d5_29 : decode prog_38_method_6_code 29 = .ok (.iload 5, 2) := by decide +kernel
theorem d5_31 : decode prog_38_method_6_code 31 = .ok (.iload 4, 2) := by decide +kernel
theorem d5_33 : decode prog_38_method_6_code 33 = .ok (.if_icmp .ge 66, 3) := by decide +kernel
theorem d5_36 : decode prog_38_method_6_code 36 = .ok (.aload_n 3, 1) := by decide +kernel
theorem d5_37 : decode prog_38_method_6_code 37 = .ok (.iload 5, 2) := by decide +kernel
theorem d5_39 : decode prog_38_method_6_code 39 = .ok (.iaload, 1) := by decide +kernel
theorem d5_40 : decode prog_38_method_6_code 40 = .ok (.istore 6, 2) := by decide +kernel
theorem d5_68 : decode prog_38_method_6_code 68 = .ok (.iload_n 2, 1) := by decide +kernel
theorem d5_69 : decode prog_38_method_6_code 69 = .ok (.aload_n 0, 1) := by decide +kernel
theorem d5_70 : decode prog_38_method_6_code 70 = .ok (.getfield 7, 3) := by decide +kernel
theorem d5_73 : decode prog_38_method_6_code 73 = .ok (.arraylength, 1) := by decide +kernel
theorem d5_74 : decode prog_38_method_6_code 74 = .ok (.if_icmp .eq 14, 3) := by decide +kernel
theorem d5_77 : decode prog_38_method_6_code 77 = .ok (.aload_n 0, 1) := by decide +kernel
theorem d5_78 : decode prog_38_method_6_code 78 = .ok (.getfield 7, 3) := by decide +kernel
theorem d5_81 : decode prog_38_method_6_code 81 = .ok (.iload_n 2, 1) := by decide +kernel
theorem d5_82 : decode prog_38_method_6_code 82 = .ok (.iaload, 1) := by decide +kernel
theorem d5_83 : decode prog_38_method_6_code 83 = .ok (.iload 6, 2) := by decide +kernel
theorem d5_85 : decode prog_38_method_6_code 85 = .ok (.if_icmp .eq 5, 3) := by decide +kernel
theorem d5_88 : decode prog_38_method_6_code 88 = .ok (.iconst 0, 1) := by decide +kernel
theorem d5_89 : decode prog_38_method_6_code 89 = .ok (.ireturn, 1) := by decide +kernel
theorem d5_90 : decode prog_38_method_6_code 90 = .ok (.iinc 2 1, 3) := by decide +kernel
theorem d5_93 : decode prog_38_method_6_code 93 = .ok (.iinc 5 1, 3) := by decide +kernel
theorem d5_96 : decode prog_38_method_6_code 96 = .ok (.goto (-67), 3) := by decide +kernel
theorem d5_99 : decode prog_38_method_6_code 99 = .ok (.iconst 1, 1) := by decide +kernel
theorem d5_100 : decode prog_38_method_6_code 100 = .ok (.ireturn, 1) := by decide +kernel
set_option maxRecDepth 65536 in
set_option maxHeartbeats 40000000 in
theorem lpout {p : Program} {l : Launch} {e : Env} {s : State} {m : MethodId} {args : Array Value} {below : List Frame} {meth : Method} {c : Code} {Z : State} {a0 : Array Value} {h0 : Heap} {n0 : Nat} (A0 : Addr) (A1 : Addr) (S0 : Addr) (S1 : Addr) (K0 : ClassId) (K1 : ClassId) (M0 : Int32) (M1 : Int32) (L0 : List Int32) (L1 : List Int32)
    (hx : p.tables.exec = Jvm.exec) (hZ : Z.Warmed39 s.vm) (hw : ∀ d ∈ tables_1, d.before a0 Z = true) (hby : c.code = prog_38_method_6_code) (hml : c.maxLocals = 7) (hown : s.vm.findClass "com/example/postil/postil/domain/Conjunction" = some m.cls) (pm0 : Fld Z h0 A0 "com/example/postil/postil/domain/Conjunction" "sources" "[I" (.ref S0)) (pm1 : Fld Z h0 A1 "com/example/postil/postil/domain/Conjunction" "sources" "[I" (.ref S1)) (pm2 : Arv Z h0 S0 K0 .int M0 (L0.map Value.int) (.int (0 : Int32))) (pm3 : Arv Z h0 S1 K1 .int M1 (L1.map Value.int) (.int (0 : Int32))) (h0n : (M0).toInt = ((L0.length : Nat) : Int)) (h1n : (M1).toInt = ((L1.length : Nat) : Int)) (hl0 : L0.length ≤ 4) (hl1 : L1.length ≤ 4) :
    ∀ (n : Nat) (i : Nat) (j : Nat) (s6 : Slot) (T0 : State) (locs : List Loc) (X0 : Stand p l e ({ frames := 0, cells := 0, slots := 0, locals := 0 } : Room) s m args below meth c T0 locs 0 0) (e0 : T0.heap = h0) (N0 : Fr n0 locs) (hs6 : s6 = .unset ∨ ∃ z, s6 = .val (.int z)) (hi : i ≤ L0.length) (hj : j + n = L1.length),
    ∃ (T' : State) (pc' : Nat) (L' : Array Slot) (locs' : List Loc), Stand p l e ({ frames := 0, cells := 0, slots := 0, locals := 0 } : Room) s m args below meth c T' locs' 0 0 ∧ Fr n0 locs' ∧ T'.heap = h0 ∧ decode c.code pc' = .ok (.ireturn, 1) ∧ ∀ t, Steps p.tables e below (T'.setTop (mkF m pc' L' [.int (own_ho (fun q r => decide (L0.getD q 0 < L1.getD r 0)) (fun q r => decide (L0.getD q 0 = L1.getD r 0)) L0.length i j n)])) t → Steps p.tables e below (T0.setTop (mkF m 29 #[.val (.ref A0), .val (.ref A1), .val (.int (Int32.ofNat i)), .val (.ref S1), .val (.int M1), .val (.int (Int32.ofNat j)), s6] [])) t := by
  intro n
  induction n with
  | zero =>
    intro i j s6 T0 locs X0 e0 N0 hs6 hi hj
    have pre0 : ∀ t, Steps p.tables e below (T0.setTop (mkF m 29 #[.val (.ref A0), .val (.ref A1), .val (.int (Int32.ofNat i)), .val (.ref S1), .val (.int M1), .val (.int (Int32.ofNat j)), s6] [])) t → Steps p.tables e below (T0.setTop (mkF m 29 #[.val (.ref A0), .val (.ref A1), .val (.int (Int32.ofNat i)), .val (.ref S1), .val (.int M1), .val (.int (Int32.ofNat j)), s6] [])) t := fun t k => k
    have pre4001 : ∀ t, Steps p.tables e below (T0.setTop (mkF m 100 #[.val (.ref A0), .val (.ref A1), .val (.int (Int32.ofNat i)), .val (.ref S1), .val (.int M1), .val (.int (Int32.ofNat j)), s6] [(.int (1 : Int32))])) t → Steps p.tables e below (T0.setTop (mkF m 29 #[.val (.ref A0), .val (.ref A1), .val (.int (Int32.ofNat i)), .val (.ref S1), .val (.int M1), .val (.int (Int32.ofNat j)), s6] [])) t := fun t kt => pre0 t (by
        show Steps p.tables e below (T0.setTop (mkF m 29 #[.val (.ref A0), .val (.ref A1), .val (.int (Int32.ofNat i)), .val (.ref S1), .val (.int M1), .val (.int (Int32.ofNat j)), s6] [])) _
        refine XS.iload X0.here hx rfl (hb hby d5_29) rfl ?_
        show Steps p.tables e below (T0.setTop (mkF m 31 #[.val (.ref A0), .val (.ref A1), .val (.int (Int32.ofNat i)), .val (.ref S1), .val (.int M1), .val (.int (Int32.ofNat j)), s6] [(.int (Int32.ofNat j))])) _
        refine XS.iload X0.here hx rfl (hb hby d5_31) rfl ?_
        show Steps p.tables e below (T0.setTop (mkF m 33 #[.val (.ref A0), .val (.ref A1), .val (.int (Int32.ofNat i)), .val (.ref S1), .val (.int M1), .val (.int (Int32.ofNat j)), s6] [(.int M1), (.int (Int32.ofNat j))])) _
        refine XS.icmpYes X0.here hx rfl (pc0 := 33) (pc' := 99) rfl (hb hby d5_33) rfl (flt (show ¬ ((Int32.ofNat j) < M1) from (fun q => absurd ((own_lt h1n (by omega)).mp q) (by omega)))).2.1 (by decide) (by decide) ?_
        show Steps p.tables e below (T0.setTop (mkF m 99 #[.val (.ref A0), .val (.ref A1), .val (.int (Int32.ofNat i)), .val (.ref S1), .val (.int M1), .val (.int (Int32.ofNat j)), s6] [])) _
        refine XS.iconst X0.here hx rfl (hb hby d5_99) ?_
        exact kt)
    have hv : (own_ho (fun q r => decide (L0.getD q 0 < L1.getD r 0)) (fun q r => decide (L0.getD q 0 = L1.getD r 0)) L0.length i j 0) = (1 : Int32) := rfl
    rw [hv]
    exact ⟨T0, 100, _, _, X0, N0, e0, (hb hby d5_100), pre4001⟩
  | succ n ih =>
    intro i j s6 T0 locs X0 e0 N0 hs6 hi hj
    have pre0 : ∀ t, Steps p.tables e below (T0.setTop (mkF m 29 #[.val (.ref A0), .val (.ref A1), .val (.int (Int32.ofNat i)), .val (.ref S1), .val (.int M1), .val (.int (Int32.ofNat j)), s6] [])) t → Steps p.tables e below (T0.setTop (mkF m 29 #[.val (.ref A0), .val (.ref A1), .val (.int (Int32.ofNat i)), .val (.ref S1), .val (.int M1), .val (.int (Int32.ofNat j)), s6] [])) t := fun t k => k
    obtain ⟨cl5001, Ar5001, q5001, S5001, N_5001, H5001, G5001⟩ := id pm3
    have hb5001 : j < L1.length := by omega
    have hh5001 : j < 100 := by omega
    have hin5001 : ¬ ((Int32.ofNat j) < 0 ∨ cl5001.slots.size ≤ ((Int32.ofNat j)).toNatClampNeg) := inb_of S5001 ⟨own_nn hh5001, (own_lt h1n hh5001).mpr hb5001⟩
    have pre5002 : ∀ t, Steps p.tables e below (T0.setTop (mkF m 42 #[.val (.ref A0), .val (.ref A1), .val (.int (Int32.ofNat i)), .val (.ref S1), .val (.int M1), .val (.int (Int32.ofNat j)), .val (.int (L1.getD j 0))] [])) t → Steps p.tables e below (T0.setTop (mkF m 29 #[.val (.ref A0), .val (.ref A1), .val (.int (Int32.ofNat i)), .val (.ref S1), .val (.int M1), .val (.int (Int32.ofNat j)), s6] [])) t := fun t kt => pre0 t (by
        show Steps p.tables e below (T0.setTop (mkF m 29 #[.val (.ref A0), .val (.ref A1), .val (.int (Int32.ofNat i)), .val (.ref S1), .val (.int M1), .val (.int (Int32.ofNat j)), s6] [])) _
        refine XS.iload X0.here hx rfl (hb hby d5_29) rfl ?_
        show Steps p.tables e below (T0.setTop (mkF m 31 #[.val (.ref A0), .val (.ref A1), .val (.int (Int32.ofNat i)), .val (.ref S1), .val (.int M1), .val (.int (Int32.ofNat j)), s6] [(.int (Int32.ofNat j))])) _
        refine XS.iload X0.here hx rfl (hb hby d5_31) rfl ?_
        show Steps p.tables e below (T0.setTop (mkF m 33 #[.val (.ref A0), .val (.ref A1), .val (.int (Int32.ofNat i)), .val (.ref S1), .val (.int M1), .val (.int (Int32.ofNat j)), s6] [(.int M1), (.int (Int32.ofNat j))])) _
        refine XS.icmpNo X0.here hx rfl (hb hby d5_33) rfl (tlt (show (Int32.ofNat j) < M1 from ((own_lt h1n (by omega)).mpr (by omega)))).2.1 ?_
        show Steps p.tables e below (T0.setTop (mkF m 36 #[.val (.ref A0), .val (.ref A1), .val (.int (Int32.ofNat i)), .val (.ref S1), .val (.int M1), .val (.int (Int32.ofNat j)), s6] [])) _
        refine XS.aloadN X0.here hx rfl (hb hby d5_36) rfl rfl ?_
        show Steps p.tables e below (T0.setTop (mkF m 37 #[.val (.ref A0), .val (.ref A1), .val (.int (Int32.ofNat i)), .val (.ref S1), .val (.int M1), .val (.int (Int32.ofNat j)), s6] [(.ref S1)])) _
        refine XS.iload X0.here hx rfl (hb hby d5_37) rfl ?_
        show Steps p.tables e below (T0.setTop (mkF m 39 #[.val (.ref A0), .val (.ref A1), .val (.int (Int32.ofNat i)), .val (.ref S1), .val (.int M1), .val (.int (Int32.ofNat j)), s6] [(.int (Int32.ofNat j)), (.ref S1)])) _
        refine X0.iaload hx (j := (Int32.ofNat j)) (v := (.int (L1.getD j 0))) (by rw [e0]; exact Ar5001.1) (State.isArrayOf_alike hZ.alike Ar5001.2.1) Ar5001.2.2 hin5001 (H5001.at hin5001 (own_getL L1 hh5001)) (g := (mkF m 39 #[.val (.ref A0), .val (.ref A1), .val (.int (Int32.ofNat i)), .val (.ref S1), .val (.int M1), .val (.int (Int32.ofNat j)), s6] [(.int (Int32.ofNat j)), (.ref S1)])) rfl rfl (hb hby d5_39) _ ?_
        show Steps p.tables e below (T0.setTop (mkF m 40 #[.val (.ref A0), .val (.ref A1), .val (.int (Int32.ofNat i)), .val (.ref S1), .val (.int M1), .val (.int (Int32.ofNat j)), s6] [(.int (L1.getD j 0))])) _
        refine XS.istore X0.here hx rfl (hb hby d5_40) rfl (l' := #[.val (.ref A0), .val (.ref A1), .val (.int (Int32.ofNat i)), .val (.ref S1), .val (.int M1), .val (.int (Int32.ofNat j)), .val (.int (L1.getD j 0))]) (by rcases hs6 with rfl | ⟨z, rfl⟩ <;> rfl) ?_
        exact kt)
    obtain ⟨T5003, lc5003, X5003, N5003, e5003, st5003⟩ := lpin A0 A1 S0 S1 K0 K1 M0 M1 L0 L1 (Int32.ofNat j) (L1.getD j 0) (a0 := a0) (Z := Z) hx hZ hw hby hml hown pm0 pm1 pm2 pm3 h0n h1n hl0 hl1 (L0.length - i) i _ _ X0 e0 N0 (by omega)
    obtain ⟨ip, hip⟩ : ∃ z, z = own_sk (fun q => decide (L0.getD q 0 < L1.getD j 0)) i (L0.length - i) := ⟨_, rfl⟩
    rw [← hip] at st5003
    have hip2 : ip ≤ L0.length := by have := own_sk_le (fun q => decide (L0.getD q 0 < L1.getD j 0)) (L0.length - i) i; omega
    obtain ⟨T5004, X5004, e5004, st5004⟩ := getF X5003 hx hZ hown (host := "") (Or.inl (hw _ (List.mem_of_getElem? (i := 18) rfl))) Via.refl e5003 pm0 (g := (mkF m 70 #[.val (.ref A0), .val (.ref A1), .val (.int (Int32.ofNat ip)), .val (.ref S1), .val (.int M1), .val (.int (Int32.ofNat j)), .val (.int (L1.getD j 0))] [(.ref A0), (.int (Int32.ofNat ip))])) rfl rfl (hb hby d5_70)
    obtain ⟨cl5005, Ar5005, -, S5005, N_5005, -, -⟩ := id pm2
    have pre5006 : ∀ t, Steps p.tables e below (T5004.setTop (mkF m 74 #[.val (.ref A0), .val (.ref A1), .val (.int (Int32.ofNat ip)), .val (.ref S1), .val (.int M1), .val (.int (Int32.ofNat j)), .val (.int (L1.getD j 0))] [(.int M0), (.int (Int32.ofNat ip))])) t → Steps p.tables e below (T0.setTop (mkF m 29 #[.val (.ref A0), .val (.ref A1), .val (.int (Int32.ofNat i)), .val (.ref S1), .val (.int M1), .val (.int (Int32.ofNat j)), s6] [])) t := fun t kt => pre5002 t (by
        refine st5003 _ ?_
        show Steps p.tables e below (T5003.setTop (mkF m 68 #[.val (.ref A0), .val (.ref A1), .val (.int (Int32.ofNat ip)), .val (.ref S1), .val (.int M1), .val (.int (Int32.ofNat j)), .val (.int (L1.getD j 0))] [])) _
        refine XS.iloadN X5003.here hx rfl (hb hby d5_68) rfl ?_
        show Steps p.tables e below (T5003.setTop (mkF m 69 #[.val (.ref A0), .val (.ref A1), .val (.int (Int32.ofNat ip)), .val (.ref S1), .val (.int M1), .val (.int (Int32.ofNat j)), .val (.int (L1.getD j 0))] [(.int (Int32.ofNat ip))])) _
        refine XS.aloadN X5003.here hx rfl (hb hby d5_69) rfl rfl ?_
        show Steps p.tables e below (T5003.setTop (mkF m 70 #[.val (.ref A0), .val (.ref A1), .val (.int (Int32.ofNat ip)), .val (.ref S1), .val (.int M1), .val (.int (Int32.ofNat j)), .val (.int (L1.getD j 0))] [(.ref A0), (.int (Int32.ofNat ip))])) _
        refine st5004 _ ?_
        show Steps p.tables e below (T5004.setTop (mkF m 73 #[.val (.ref A0), .val (.ref A1), .val (.int (Int32.ofNat ip)), .val (.ref S1), .val (.int M1), .val (.int (Int32.ofNat j)), .val (.int (L1.getD j 0))] [(.ref S0), (.int (Int32.ofNat ip))])) _
        refine X5004.arraylength hx (by rw [e5004]; exact Ar5005.1) (State.isArrayOf_alike hZ.alike Ar5005.2.1) (g := (mkF m 73 #[.val (.ref A0), .val (.ref A1), .val (.int (Int32.ofNat ip)), .val (.ref S1), .val (.int M1), .val (.int (Int32.ofNat j)), .val (.int (L1.getD j 0))] [(.ref S0), (.int (Int32.ofNat ip))])) rfl rfl (hb hby d5_73) _ ?_
        rw [len_of S5005 N_5005]
        exact kt)
    by_cases hc74 : (Int32.ofNat ip) = M0
    · have pre5007 : ∀ t, Steps p.tables e below (T5004.setTop (mkF m 89 #[.val (.ref A0), .val (.ref A1), .val (.int (Int32.ofNat ip)), .val (.ref S1), .val (.int M1), .val (.int (Int32.ofNat j)), .val (.int (L1.getD j 0))] [(.int (0 : Int32))])) t → Steps p.tables e below (T0.setTop (mkF m 29 #[.val (.ref A0), .val (.ref A1), .val (.int (Int32.ofNat i)), .val (.ref S1), .val (.int M1), .val (.int (Int32.ofNat j)), s6] [])) t := fun t kt => pre5006 t (by
          show Steps p.tables e below (T5004.setTop (mkF m 74 #[.val (.ref A0), .val (.ref A1), .val (.int (Int32.ofNat ip)), .val (.ref S1), .val (.int M1), .val (.int (Int32.ofNat j)), .val (.int (L1.getD j 0))] [(.int M0), (.int (Int32.ofNat ip))])) _
          refine XS.icmpYes X5004.here hx rfl (pc0 := 74) (pc' := 88) rfl (hb hby d5_74) rfl (teq hc74).1 (by decide) (by decide) ?_
          show Steps p.tables e below (T5004.setTop (mkF m 88 #[.val (.ref A0), .val (.ref A1), .val (.int (Int32.ofNat ip)), .val (.ref S1), .val (.int M1), .val (.int (Int32.ofNat j)), .val (.int (L1.getD j 0))] [])) _
          refine XS.iconst X5004.here hx rfl (hb hby d5_88) ?_
          exact kt)
      have hv : (own_ho (fun q r => decide (L0.getD q 0 < L1.getD r 0)) (fun q r => decide (L0.getD q 0 = L1.getD r 0)) L0.length i j (n + 1)) = (0 : Int32) := by rw [own_ho]; show (if own_sk (fun q => decide (L0.getD q 0 < L1.getD j 0)) i (L0.length - i) = L0.length then _ else _) = _; rw [← hip, if_pos ((own_eqn h0n (by omega)).mp hc74)]
      rw [hv]
      exact ⟨T5004, 89, _, _, X5004, N5003, e5004, (hb hby d5_89), pre5007⟩
    · obtain ⟨T5008, X5008, e5008, st5008⟩ := getF X5004 hx hZ hown (host := "") (Or.inl (hw _ (List.mem_of_getElem? (i := 18) rfl))) Via.refl e5004 pm0 (g := (mkF m 78 #[.val (.ref A0), .val (.ref A1), .val (.int (Int32.ofNat ip)), .val (.ref S1), .val (.int M1), .val (.int (Int32.ofNat j)), .val (.int (L1.getD j 0))] [(.ref A0)])) rfl rfl (hb hby d5_78)
      obtain ⟨cl5009, Ar5009, q5009, S5009, N_5009, H5009, G5009⟩ := id pm2
      have hb5009 : ip < L0.length := by have hq : ip ≠ L0.length := fun q => hc74 ((own_eqn h0n (by omega)).mpr q); omega
      have hh5009 : ip < 100 := by omega
      have hin5009 : ¬ ((Int32.ofNat ip) < 0 ∨ cl5009.slots.size ≤ ((Int32.ofNat ip)).toNatClampNeg) := inb_of S5009 ⟨own_nn hh5009, (own_lt h0n hh5009).mpr hb5009⟩
      have pre5010 : ∀ t, Steps p.tables e below (T5008.setTop (mkF m 85 #[.val (.ref A0), .val (.ref A1), .val (.int (Int32.ofNat ip)), .val (.ref S1), .val (.int M1), .val (.int (Int32.ofNat j)), .val (.int (L1.getD j 0))] [(.int (L1.getD j 0)), (.int (L0.getD ip 0))])) t → Steps p.tables e below (T0.setTop (mkF m 29 #[.val (.ref A0), .val (.ref A1), .val (.int (Int32.ofNat i)), .val (.ref S1), .val (.int M1), .val (.int (Int32.ofNat j)), s6] [])) t := fun t kt => pre5006 t (by
          show Steps p.tables e below (T5004.setTop (mkF m 74 #[.val (.ref A0), .val (.ref A1), .val (.int (Int32.ofNat ip)), .val (.ref S1), .val (.int M1), .val (.int (Int32.ofNat j)), .val (.int (L1.getD j 0))] [(.int M0), (.int (Int32.ofNat ip))])) _
          refine XS.icmpNo X5004.here hx rfl (hb hby d5_74) rfl (feq hc74).1 ?_
          show Steps p.tables e below (T5004.setTop (mkF m 77 #[.val (.ref A0), .val (.ref A1), .val (.int (Int32.ofNat ip)), .val (.ref S1), .val (.int M1), .val (.int (Int32.ofNat j)), .val (.int (L1.getD j 0))] [])) _
          refine XS.aloadN X5004.here hx rfl (hb hby d5_77) rfl rfl ?_
          show Steps p.tables e below (T5004.setTop (mkF m 78 #[.val (.ref A0), .val (.ref A1), .val (.int (Int32.ofNat ip)), .val (.ref S1), .val (.int M1), .val (.int (Int32.ofNat j)), .val (.int (L1.getD j 0))] [(.ref A0)])) _
          refine st5008 _ ?_
          show Steps p.tables e below (T5008.setTop (mkF m 81 #[.val (.ref A0), .val (.ref A1), .val (.int (Int32.ofNat ip)), .val (.ref S1), .val (.int M1), .val (.int (Int32.ofNat j)), .val (.int (L1.getD j 0))] [(.ref S0)])) _
          refine XS.iloadN X5008.here hx rfl (hb hby d5_81) rfl ?_
          show Steps p.tables e below (T5008.setTop (mkF m 82 #[.val (.ref A0), .val (.ref A1), .val (.int (Int32.ofNat ip)), .val (.ref S1), .val (.int M1), .val (.int (Int32.ofNat j)), .val (.int (L1.getD j 0))] [(.int (Int32.ofNat ip)), (.ref S0)])) _
          refine X5008.iaload hx (j := (Int32.ofNat ip)) (v := (.int (L0.getD ip 0))) (by rw [e5008]; exact Ar5009.1) (State.isArrayOf_alike hZ.alike Ar5009.2.1) Ar5009.2.2 hin5009 (H5009.at hin5009 (own_getL L0 hh5009)) (g := (mkF m 82 #[.val (.ref A0), .val (.ref A1), .val (.int (Int32.ofNat ip)), .val (.ref S1), .val (.int M1), .val (.int (Int32.ofNat j)), .val (.int (L1.getD j 0))] [(.int (Int32.ofNat ip)), (.ref S0)])) rfl rfl (hb hby d5_82) _ ?_
          show Steps p.tables e below (T5008.setTop (mkF m 83 #[.val (.ref A0), .val (.ref A1), .val (.int (Int32.ofNat ip)), .val (.ref S1), .val (.int M1), .val (.int (Int32.ofNat j)), .val (.int (L1.getD j 0))] [(.int (L0.getD ip 0))])) _
          refine XS.iload X5008.here hx rfl (hb hby d5_83) rfl ?_
          exact kt)
      by_cases hc85 : (L0.getD ip 0) = (L1.getD j 0)
      · have pre5011 : ∀ t, Steps p.tables e below (T5008.setTop (mkF m 29 #[.val (.ref A0), .val (.ref A1), .val (.int ((Int32.ofNat ip) + (1 : Int32))), .val (.ref S1), .val (.int M1), .val (.int ((Int32.ofNat j) + (1 : Int32))), .val (.int (L1.getD j 0))] [])) t → Steps p.tables e below (T0.setTop (mkF m 29 #[.val (.ref A0), .val (.ref A1), .val (.int (Int32.ofNat i)), .val (.ref S1), .val (.int M1), .val (.int (Int32.ofNat j)), s6] [])) t := fun t kt => pre5010 t (by
            show Steps p.tables e below (T5008.setTop (mkF m 85 #[.val (.ref A0), .val (.ref A1), .val (.int (Int32.ofNat ip)), .val (.ref S1), .val (.int M1), .val (.int (Int32.ofNat j)), .val (.int (L1.getD j 0))] [(.int (L1.getD j 0)), (.int (L0.getD ip 0))])) _
            refine XS.icmpYes X5008.here hx rfl (pc0 := 85) (pc' := 90) rfl (hb hby d5_85) rfl (teq hc85).1 (by decide) (by decide) ?_
            show Steps p.tables e below (T5008.setTop (mkF m 90 #[.val (.ref A0), .val (.ref A1), .val (.int (Int32.ofNat ip)), .val (.ref S1), .val (.int M1), .val (.int (Int32.ofNat j)), .val (.int (L1.getD j 0))] [])) _
            refine XS.iinc X5008.here hx rfl (hb hby d5_90) rfl (l' := #[.val (.ref A0), .val (.ref A1), .val (.int ((Int32.ofNat ip) + (1 : Int32))), .val (.ref S1), .val (.int M1), .val (.int (Int32.ofNat j)), .val (.int (L1.getD j 0))]) rfl ?_
            show Steps p.tables e below (T5008.setTop (mkF m 93 #[.val (.ref A0), .val (.ref A1), .val (.int ((Int32.ofNat ip) + (1 : Int32))), .val (.ref S1), .val (.int M1), .val (.int (Int32.ofNat j)), .val (.int (L1.getD j 0))] [])) _
            refine XS.iinc X5008.here hx rfl (hb hby d5_93) rfl (l' := #[.val (.ref A0), .val (.ref A1), .val (.int ((Int32.ofNat ip) + (1 : Int32))), .val (.ref S1), .val (.int M1), .val (.int ((Int32.ofNat j) + (1 : Int32))), .val (.int (L1.getD j 0))]) rfl ?_
            show Steps p.tables e below (T5008.setTop (mkF m 96 #[.val (.ref A0), .val (.ref A1), .val (.int ((Int32.ofNat ip) + (1 : Int32))), .val (.ref S1), .val (.int M1), .val (.int ((Int32.ofNat j) + (1 : Int32))), .val (.int (L1.getD j 0))] [])) _
            refine XS.goto X5008.here hx rfl (pc0 := 96) (pc' := 29) rfl (hb hby d5_96) (by decide) (by decide) ?_
            exact kt)
        have pre5012 : ∀ t, Steps p.tables e below (T5008.setTop (mkF m 29 #[.val (.ref A0), .val (.ref A1), .val (.int (Int32.ofNat (ip + 1))), .val (.ref S1), .val (.int M1), .val (.int ((Int32.ofNat j) + (1 : Int32))), .val (.int (L1.getD j 0))] [])) t → Steps p.tables e below (T0.setTop (mkF m 29 #[.val (.ref A0), .val (.ref A1), .val (.int (Int32.ofNat i)), .val (.ref S1), .val (.int M1), .val (.int (Int32.ofNat j)), s6] [])) t := fun t kt => pre5011 t (by rw [show ((Int32.ofNat ip) + (1 : Int32)) = (Int32.ofNat (ip + 1)) from own_suc ip]; exact kt)
        have pre5013 : ∀ t, Steps p.tables e below (T5008.setTop (mkF m 29 #[.val (.ref A0), .val (.ref A1), .val (.int (Int32.ofNat (ip + 1))), .val (.ref S1), .val (.int M1), .val (.int (Int32.ofNat (j + 1))), .val (.int (L1.getD j 0))] [])) t → Steps p.tables e below (T0.setTop (mkF m 29 #[.val (.ref A0), .val (.ref A1), .val (.int (Int32.ofNat i)), .val (.ref S1), .val (.int M1), .val (.int (Int32.ofNat j)), s6] [])) t := fun t kt => pre5012 t (by rw [show ((Int32.ofNat j) + (1 : Int32)) = (Int32.ofNat (j + 1)) from own_suc j]; exact kt)
        obtain ⟨T5014, pc5014, L5014, lc5014, X5014, N5014, e5014, dc5014, st5014⟩ := ih (ip + 1) (j + 1) (.val (.int (L1.getD j 0))) T5008 _ X5008 e5008 N5003 (Or.inr ⟨_, rfl⟩) (by have hq : ip ≠ L0.length := fun q => hc74 ((own_eqn h0n (by omega)).mpr q); omega) (by omega)
        have hv : (own_ho (fun q r => decide (L0.getD q 0 < L1.getD r 0)) (fun q r => decide (L0.getD q 0 = L1.getD r 0)) L0.length i j (n + 1)) = (own_ho (fun q r => decide (L0.getD q 0 < L1.getD r 0)) (fun q r => decide (L0.getD q 0 = L1.getD r 0)) L0.length (ip + 1) (j + 1) n) := by rw [own_ho]; show (if own_sk (fun q => decide (L0.getD q 0 < L1.getD j 0)) i (L0.length - i) = L0.length then _ else (if decide (L0.getD (own_sk (fun q => decide (L0.getD q 0 < L1.getD j 0)) i (L0.length - i)) 0 = L1.getD j 0) then own_ho (fun q r => decide (L0.getD q 0 < L1.getD r 0)) (fun q r => decide (L0.getD q 0 = L1.getD r 0)) L0.length (own_sk (fun q => decide (L0.getD q 0 < L1.getD j 0)) i (L0.length - i) + 1) (j + 1) n else _)) = _; rw [← hip, if_neg (fun q => hc74 ((own_eqn h0n (by omega)).mpr q)), if_pos (decide_eq_true hc85)]
        rw [hv]
        exact ⟨T5014, pc5014, L5014, lc5014, X5014, N5014, e5014, dc5014, fun t kt => pre5013 t (st5014 t kt)⟩
      · have pre5015 : ∀ t, Steps p.tables e below (T5008.setTop (mkF m 89 #[.val (.ref A0), .val (.ref A1), .val (.int (Int32.ofNat ip)), .val (.ref S1), .val (.int M1), .val (.int (Int32.ofNat j)), .val (.int (L1.getD j 0))] [(.int (0 : Int32))])) t → Steps p.tables e below (T0.setTop (mkF m 29 #[.val (.ref A0), .val (.ref A1), .val (.int (Int32.ofNat i)), .val (.ref S1), .val (.int M1), .val (.int (Int32.ofNat j)), s6] [])) t := fun t kt => pre5010 t (by
            show Steps p.tables e below (T5008.setTop (mkF m 85 #[.val (.ref A0), .val (.ref A1), .val (.int (Int32.ofNat ip)), .val (.ref S1), .val (.int M1), .val (.int (Int32.ofNat j)), .val (.int (L1.getD j 0))] [(.int (L1.getD j 0)), (.int (L0.getD ip 0))])) _
            refine XS.icmpNo X5008.here hx rfl (hb hby d5_85) rfl (feq hc85).1 ?_
            show Steps p.tables e below (T5008.setTop (mkF m 88 #[.val (.ref A0), .val (.ref A1), .val (.int (Int32.ofNat ip)), .val (.ref S1), .val (.int M1), .val (.int (Int32.ofNat j)), .val (.int (L1.getD j 0))] [])) _
            refine XS.iconst X5008.here hx rfl (hb hby d5_88) ?_
            exact kt)
        have hv : (own_ho (fun q r => decide (L0.getD q 0 < L1.getD r 0)) (fun q r => decide (L0.getD q 0 = L1.getD r 0)) L0.length i j (n + 1)) = (0 : Int32) := by rw [own_ho]; show (if own_sk (fun q => decide (L0.getD q 0 < L1.getD j 0)) i (L0.length - i) = L0.length then _ else (if decide (L0.getD (own_sk (fun q => decide (L0.getD q 0 < L1.getD j 0)) i (L0.length - i)) 0 = L1.getD j 0) then own_ho (fun q r => decide (L0.getD q 0 < L1.getD r 0)) (fun q r => decide (L0.getD q 0 = L1.getD r 0)) L0.length (own_sk (fun q => decide (L0.getD q 0 < L1.getD j 0)) i (L0.length - i) + 1) (j + 1) n else _)) = _; rw [← hip, if_neg (fun q => hc74 ((own_eqn h0n (by omega)).mpr q)), if_neg (fun q => hc85 (of_decide_eq_true q))]
        rw [hv]
        exact ⟨T5008, 89, _, _, X5008, N5003, e5008, (hb hby d5_89), pre5015⟩
theorem d5_0 : decode prog_38_method_6_code 0 = .ok (.aload_n 1, 1) := by decide +kernel
theorem d5_1 : decode prog_38_method_6_code 1 = .ok (.getfield 7, 3) := by decide +kernel
theorem d5_4 : decode prog_38_method_6_code 4 = .ok (.arraylength, 1) := by decide +kernel
theorem d5_5 : decode prog_38_method_6_code 5 = .ok (.aload_n 0, 1) := by decide +kernel
theorem d5_6 : decode prog_38_method_6_code 6 = .ok (.getfield 7, 3) := by decide +kernel
theorem d5_9 : decode prog_38_method_6_code 9 = .ok (.arraylength, 1) := by decide +kernel
theorem d5_10 : decode prog_38_method_6_code 10 = .ok (.if_icmp .le 5, 3) := by decide +kernel
theorem d5_13 : decode prog_38_method_6_code 13 = .ok (.iconst 0, 1) := by decide +kernel
theorem d5_14 : decode prog_38_method_6_code 14 = .ok (.ireturn, 1) := by decide +kernel
theorem d5_15 : decode prog_38_method_6_code 15 = .ok (.iconst 0, 1) := by decide +kernel
theorem d5_16 : decode prog_38_method_6_code 16 = .ok (.istore_n 2, 1) := by decide +kernel
theorem d5_17 : decode prog_38_method_6_code 17 = .ok (.aload_n 1, 1) := by decide +kernel
theorem d5_18 : decode prog_38_method_6_code 18 = .ok (.getfield 7, 3) := by decide +kernel
theorem d5_21 : decode prog_38_method_6_code 21 = .ok (.astore_n 3, 1) := by decide +kernel
theorem d5_22 : decode prog_38_method_6_code 22 = .ok (.aload_n 3, 1) := by decide +kernel
theorem d5_23 : decode prog_38_method_6_code 23 = .ok (.arraylength, 1) := by decide +kernel
theorem d5_24 : decode prog_38_method_6_code 24 = .ok (.istore 4, 2) := by decide +kernel
theorem d5_26 : decode prog_38_method_6_code 26 = .ok (.iconst 0, 1) := by decide +kernel
theorem d5_27 : decode prog_38_method_6_code 27 = .ok (.istore 5, 2) := by decide +kernel
theorem pn_5 : plainName "com/example/postil/postil/domain/Conjunction" = true := by first | (simp [plainName, overriddenIn]; done) | decide +kernel
theorem ef_5 (m : MethodId) (A0 : Addr) (A1 : Addr) : entryFrame m #[(.ref A0), (.ref A1)] 7 = mkF m 0 #[.val (.ref A0), .val (.ref A1), .unset, .unset, .unset, .unset, .unset] [] := by first | (simp [entryFrame, mkF, argsToLocals, Value.category]; done) | rfl
def Q5 (Z : State) (A0 : Addr) (A1 : Addr) (S0 : Addr) (S1 : Addr) (K0 : ClassId) (K1 : ClassId) (M0 : Int32) (M1 : Int32) (L0 : List Int32) (L1 : List Int32) (h0 : Heap) (n0 : Nat) (v : Option Value) (h : Heap) (L : List Loc) : Prop := (v = some (.int (own_ha L0 L1))) ∧ (Fr n0 L) ∧ (h = h0)
set_option maxRecDepth 65536 in
set_option maxHeartbeats 40000000 in
theorem rm5 (l : Launch) (Z : State) (a0 : Array Value) (hw : ∀ d ∈ tables_1, d.before a0 Z = true) (ws : List Jvm.Cond) (A0 : Addr) (A1 : Addr) (S0 : Addr) (S1 : Addr) (K0 : ClassId) (K1 : ClassId) (M0 : Int32) (M1 : Int32) (L0 : List Int32) (L1 : List Int32) (h0 : Heap) (n0 : Nat) (Z0 : n0 ≤ h0.size) (pm0 : Fld Z h0 A0 "com/example/postil/postil/domain/Conjunction" "sources" "[I" (.ref S0)) (pm1 : Fld Z h0 A1 "com/example/postil/postil/domain/Conjunction" "sources" "[I" (.ref S1)) (pm2 : Arv Z h0 S0 K0 .int M0 (L0.map Value.int) (.int (0 : Int32))) (pm3 : Arv Z h0 S1 K1 .int M1 (L1.map Value.int) (.int (0 : Int32))) (h0n : (M0).toInt = ((L0.length : Nat) : Int)) (h1n : (M1).toInt = ((L1.length : Nat) : Int)) (hl0 : L0.length ≤ 4) (hl1 : L1.length ≤ 4) :
    MetFree l (⟨"com/example/postil/postil/domain/Conjunction", "holdsAll", "(Lcom/example/postil/postil/domain/Conjunction;)Z"⟩ : MethodName) (head1 (Jvm.Cond.code (⟨"com/example/postil/postil/domain/Conjunction", "holdsAll", "(Lcom/example/postil/postil/domain/Conjunction;)Z"⟩ : MethodName) prog_38_method_6_code 7 (some .boolean) :: ws) ({ frames := 0, cells := 0, slots := 0, locals := 0 } : Room)) (fun a U => a = #[(.ref A0), (.ref A1)] ∧ Z.Warmed39 U.vm ∧ U.heap = h0) (fun _ _ _ _ _ => True) (fun _ U o U' => ∃ v L, o = .returned v ∧ Q5 Z A0 A1 S0 S1 K0 K1 M0 M1 L0 L1 h0 n0 v U'.heap L ∧ FrameEnd U o U' L ({ frames := 0, cells := 0, slots := 0, locals := 0 } : Room).cells ({ frames := 0, cells := 0, slots := 0, locals := 0 } : Room).slots) := by
  refine MetFree.of_bodySF (plainFor_of_name pn_5) hisR ?_
  intro p e s m args below meth c s₁ Bd hml0 hP hK
  obtain ⟨rfl, hZ, hh⟩ := hP
  have hx := Bd.exec
  have hby := Bd.bytes
  have hml : c.maxLocals = 7 := hml0
  have hown : s.vm.findClass "com/example/postil/postil/domain/Conjunction" = some m.cls := findClass_of_methodNamed Bd.named
  have hnm := (name_of_methodNamed Bd.named Bd.method).1
  have X0 : Stand p l e ({ frames := 0, cells := 0, slots := 0, locals := 0 } : Room) s m #[(.ref A0), (.ref A1)] below meth c s₁ [] 0 0 := Stand.of_body Bd
  have e0 : s₁.heap = h0 := by rw [← hh, Bd.state]; rfl
  have N0 := Fr.nil n0
  have pre0 : ∀ t, Steps p.tables e below (s₁.setTop (mkF m 0 #[.val (.ref A0), .val (.ref A1), .unset, .unset, .unset, .unset, .unset] [])) t → Steps p.tables e below (s₁.setTop (entryFrame m #[(.ref A0), (.ref A1)] 7)) t := fun t k => castTop (ef_5 m A0 A1) k
  obtain ⟨T101, X101, e101, st101⟩ := getF X0 hx hZ hown (host := "") (Or.inl (hw _ (List.mem_of_getElem? (i := 18) rfl))) Via.refl e0 pm1 (g := (mkF m 1 #[.val (.ref A0), .val (.ref A1), .unset, .unset, .unset, .unset, .unset] [(.ref A1)])) rfl rfl (hb hby d5_1)
  obtain ⟨cl102, Ar102, -, S102, N_102, -, -⟩ := id pm3
  obtain ⟨T103, X103, e103, st103⟩ := getF X101 hx hZ hown (host := "") (Or.inl (hw _ (List.mem_of_getElem? (i := 18) rfl))) Via.refl e101 pm0 (g := (mkF m 6 #[.val (.ref A0), .val (.ref A1), .unset, .unset, .unset, .unset, .unset] [(.ref A0), (.int M1)])) rfl rfl (hb hby d5_6)
  obtain ⟨cl104, Ar104, -, S104, N_104, -, -⟩ := id pm2
  have pre105 : ∀ t, Steps p.tables e below (T103.setTop (mkF m 10 #[.val (.ref A0), .val (.ref A1), .unset, .unset, .unset, .unset, .unset] [(.int M0), (.int M1)])) t → Steps p.tables e below (s₁.setTop (entryFrame m #[(.ref A0), (.ref A1)] 7)) t := fun t kt => pre0 t (by
      show Steps p.tables e below (s₁.setTop (mkF m 0 #[.val (.ref A0), .val (.ref A1), .unset, .unset, .unset, .unset, .unset] [])) _
      refine XS.aloadN X0.here hx rfl (hb hby d5_0) rfl rfl ?_
      show Steps p.tables e below (s₁.setTop (mkF m 1 #[.val (.ref A0), .val (.ref A1), .unset, .unset, .unset, .unset, .unset] [(.ref A1)])) _
      refine st101 _ ?_
      show Steps p.tables e below (T101.setTop (mkF m 4 #[.val (.ref A0), .val (.ref A1), .unset, .unset, .unset, .unset, .unset] [(.ref S1)])) _
      refine X101.arraylength hx (by rw [e101]; exact Ar102.1) (State.isArrayOf_alike hZ.alike Ar102.2.1) (g := (mkF m 4 #[.val (.ref A0), .val (.ref A1), .unset, .unset, .unset, .unset, .unset] [(.ref S1)])) rfl rfl (hb hby d5_4) _ ?_
      rw [len_of S102 N_102]
      show Steps p.tables e below (T101.setTop (mkF m 5 #[.val (.ref A0), .val (.ref A1), .unset, .unset, .unset, .unset, .unset] [(.int M1)])) _
      refine XS.aloadN X101.here hx rfl (hb hby d5_5) rfl rfl ?_
      show Steps p.tables e below (T101.setTop (mkF m 6 #[.val (.ref A0), .val (.ref A1), .unset, .unset, .unset, .unset, .unset] [(.ref A0), (.int M1)])) _
      refine st103 _ ?_
      show Steps p.tables e below (T103.setTop (mkF m 9 #[.val (.ref A0), .val (.ref A1), .unset, .unset, .unset, .unset, .unset] [(.ref S0), (.int M1)])) _
      refine X103.arraylength hx (by rw [e103]; exact Ar104.1) (State.isArrayOf_alike hZ.alike Ar104.2.1) (g := (mkF m 9 #[.val (.ref A0), .val (.ref A1), .unset, .unset, .unset, .unset, .unset] [(.ref S0), (.int M1)])) rfl rfl (hb hby d5_9) _ ?_
      rw [len_of S104 N_104]
      exact kt)
  by_cases hc10 : M0 < M1
  · have pre106 : ∀ t, Steps p.tables e below (T103.setTop (mkF m 14 #[.val (.ref A0), .val (.ref A1), .unset, .unset, .unset, .unset, .unset] [(.int (0 : Int32))])) t → Steps p.tables e below (s₁.setTop (entryFrame m #[(.ref A0), (.ref A1)] 7)) t := fun t kt => pre105 t (by
        show Steps p.tables e below (T103.setTop (mkF m 10 #[.val (.ref A0), .val (.ref A1), .unset, .unset, .unset, .unset, .unset] [(.int M0), (.int M1)])) _
        refine XS.icmpNo X103.here hx rfl (hb hby d5_10) rfl (tlt hc10).2.2.2 ?_
        show Steps p.tables e below (T103.setTop (mkF m 13 #[.val (.ref A0), .val (.ref A1), .unset, .unset, .unset, .unset, .unset] [])) _
        refine XS.iconst X103.here hx rfl (hb hby d5_13) ?_
        exact kt)
    obtain ⟨fs, hr, hrun, hended, hW, hsame⟩ := X103.leave (v := some (.int (0 : Int32))) (fun h => by rw [Bd.returns] at h; cases h)
    refine ⟨_, _, pre106 _ ?_, hrun, hended, _, _, rfl, ?_, ⟨_, rfl⟩, hW, hsame.mono (by decide) (by decide)⟩
    · show Steps p.tables e below (T103.setTop (mkF m 14 #[.val (.ref A0), .val (.ref A1), .unset, .unset, .unset, .unset, .unset] [(.int (0 : Int32))])) _
      exact retN X103 hx (t := .boolean) Bd.returns (by simp) (hb hby d5_14) hr
    · show Q5 Z A0 A1 S0 S1 K0 K1 M0 M1 L0 L1 h0 n0 _ T103.heap _
      rw [e103]
      exact ⟨(congrArg (fun z => some (Value.int z)) (show (0 : Int32) = own_ha L0 L1 from by unfold own_ha; rw [if_pos (by rw [Int32.lt_iff_toInt_lt, h0n, h1n] at hc10; omega)])), N0, rfl⟩
  · obtain ⟨T107, X107, e107, st107⟩ := getF X103 hx hZ hown (host := "") (Or.inl (hw _ (List.mem_of_getElem? (i := 18) rfl))) Via.refl e103 pm1 (g := (mkF m 18 #[.val (.ref A0), .val (.ref A1), .val (.int (0 : Int32)), .unset, .unset, .unset, .unset] [(.ref A1)])) rfl rfl (hb hby d5_18)
    obtain ⟨cl108, Ar108, -, S108, N_108, -, -⟩ := id pm3
    have pre109 : ∀ t, Steps p.tables e below (T107.setTop (mkF m 29 #[.val (.ref A0), .val (.ref A1), .val (.int (0 : Int32)), .val (.ref S1), .val (.int M1), .val (.int (0 : Int32)), .unset] [])) t → Steps p.tables e below (s₁.setTop (entryFrame m #[(.ref A0), (.ref A1)] 7)) t := fun t kt => pre105 t (by
        show Steps p.tables e below (T103.setTop (mkF m 10 #[.val (.ref A0), .val (.ref A1), .unset, .unset, .unset, .unset, .unset] [(.int M0), (.int M1)])) _
        refine XS.icmpYes X103.here hx rfl (pc0 := 10) (pc' := 15) rfl (hb hby d5_10) rfl (flt hc10).2.2.2 (by decide) (by decide) ?_
        show Steps p.tables e below (T103.setTop (mkF m 15 #[.val (.ref A0), .val (.ref A1), .unset, .unset, .unset, .unset, .unset] [])) _
        refine XS.iconst X103.here hx rfl (hb hby d5_15) ?_
        show Steps p.tables e below (T103.setTop (mkF m 16 #[.val (.ref A0), .val (.ref A1), .unset, .unset, .unset, .unset, .unset] [(.int (0 : Int32))])) _
        refine XS.istoreN X103.here hx rfl (hb hby d5_16) rfl (l' := #[.val (.ref A0), .val (.ref A1), .val (.int (0 : Int32)), .unset, .unset, .unset, .unset]) rfl ?_
        show Steps p.tables e below (T103.setTop (mkF m 17 #[.val (.ref A0), .val (.ref A1), .val (.int (0 : Int32)), .unset, .unset, .unset, .unset] [])) _
        refine XS.aloadN X103.here hx rfl (hb hby d5_17) rfl rfl ?_
        show Steps p.tables e below (T103.setTop (mkF m 18 #[.val (.ref A0), .val (.ref A1), .val (.int (0 : Int32)), .unset, .unset, .unset, .unset] [(.ref A1)])) _
        refine st107 _ ?_
        show Steps p.tables e below (T107.setTop (mkF m 21 #[.val (.ref A0), .val (.ref A1), .val (.int (0 : Int32)), .unset, .unset, .unset, .unset] [(.ref S1)])) _
        refine XS.astoreN X107.here hx rfl (hb hby d5_21) rfl rfl (l' := #[.val (.ref A0), .val (.ref A1), .val (.int (0 : Int32)), .val (.ref S1), .unset, .unset, .unset]) rfl ?_
        show Steps p.tables e below (T107.setTop (mkF m 22 #[.val (.ref A0), .val (.ref A1), .val (.int (0 : Int32)), .val (.ref S1), .unset, .unset, .unset] [])) _
        refine XS.aloadN X107.here hx rfl (hb hby d5_22) rfl rfl ?_
        show Steps p.tables e below (T107.setTop (mkF m 23 #[.val (.ref A0), .val (.ref A1), .val (.int (0 : Int32)), .val (.ref S1), .unset, .unset, .unset] [(.ref S1)])) _
        refine X107.arraylength hx (by rw [e107]; exact Ar108.1) (State.isArrayOf_alike hZ.alike Ar108.2.1) (g := (mkF m 23 #[.val (.ref A0), .val (.ref A1), .val (.int (0 : Int32)), .val (.ref S1), .unset, .unset, .unset] [(.ref S1)])) rfl rfl (hb hby d5_23) _ ?_
        rw [len_of S108 N_108]
        show Steps p.tables e below (T107.setTop (mkF m 24 #[.val (.ref A0), .val (.ref A1), .val (.int (0 : Int32)), .val (.ref S1), .unset, .unset, .unset] [(.int M1)])) _
        refine XS.istore X107.here hx rfl (hb hby d5_24) rfl (l' := #[.val (.ref A0), .val (.ref A1), .val (.int (0 : Int32)), .val (.ref S1), .val (.int M1), .unset, .unset]) rfl ?_
        show Steps p.tables e below (T107.setTop (mkF m 26 #[.val (.ref A0), .val (.ref A1), .val (.int (0 : Int32)), .val (.ref S1), .val (.int M1), .unset, .unset] [])) _
        refine XS.iconst X107.here hx rfl (hb hby d5_26) ?_
        show Steps p.tables e below (T107.setTop (mkF m 27 #[.val (.ref A0), .val (.ref A1), .val (.int (0 : Int32)), .val (.ref S1), .val (.int M1), .unset, .unset] [(.int (0 : Int32))])) _
        refine XS.istore X107.here hx rfl (hb hby d5_27) rfl (l' := #[.val (.ref A0), .val (.ref A1), .val (.int (0 : Int32)), .val (.ref S1), .val (.int M1), .val (.int (0 : Int32)), .unset]) rfl ?_
        exact kt)
    have pre110 : ∀ t, Steps p.tables e below (T107.setTop (mkF m 29 #[.val (.ref A0), .val (.ref A1), .val (.int (Int32.ofNat 0)), .val (.ref S1), .val (.int M1), .val (.int (0 : Int32)), .unset] [])) t → Steps p.tables e below (s₁.setTop (entryFrame m #[(.ref A0), (.ref A1)] 7)) t := fun t kt => pre109 t (by rw [show (0 : Int32) = (Int32.ofNat 0) from rfl]; exact kt)
    have pre111 : ∀ t, Steps p.tables e below (T107.setTop (mkF m 29 #[.val (.ref A0), .val (.ref A1), .val (.int (Int32.ofNat 0)), .val (.ref S1), .val (.int M1), .val (.int (Int32.ofNat 0)), .unset] [])) t → Steps p.tables e below (s₁.setTop (entryFrame m #[(.ref A0), (.ref A1)] 7)) t := fun t kt => pre110 t (by rw [show (0 : Int32) = (Int32.ofNat 0) from rfl]; exact kt)
    obtain ⟨T112, pc112, L112, lc112, X112, N112, e112, dc112, st112⟩ := lpout A0 A1 S0 S1 K0 K1 M0 M1 L0 L1 (a0 := a0) (Z := Z) hx hZ hw hby hml hown pm0 pm1 pm2 pm3 h0n h1n hl0 hl1 L1.length 0 0 .unset _ _ X107 e107 N0 (Or.inl rfl) (Nat.zero_le _) (Nat.zero_add _)
    obtain ⟨fs, hr, hrun, hended, hW, hsame⟩ := X112.leave (v := some (.int (own_ho (fun q r => decide (L0.getD q 0 < L1.getD r 0)) (fun q r => decide (L0.getD q 0 = L1.getD r 0)) L0.length 0 0 L1.length))) (fun h => by rw [Bd.returns] at h; cases h)
    refine ⟨_, _, pre111 _ (st112 _ ?_), hrun, hended, _, _, rfl, ?_, ⟨_, rfl⟩, hW, hsame.mono (by decide) (by decide)⟩
    · refine retN X112 hx (t := .boolean) Bd.returns (by simp) dc112 ?_
      rw [show nar .boolean (own_ho (fun q r => decide (L0.getD q 0 < L1.getD r 0)) (fun q r => decide (L0.getD q 0 = L1.getD r 0)) L0.length 0 0 L1.length) = (own_ho (fun q r => decide (L0.getD q 0 < L1.getD r 0)) (fun q r => decide (L0.getD q 0 = L1.getD r 0)) L0.length 0 0 L1.length) from by rcases own_ho01 (fun q r => decide (L0.getD q 0 < L1.getD r 0)) (fun q r => decide (L0.getD q 0 = L1.getD r 0)) L0.length L1.length 0 0 with q | q <;> rw [q] <;> rfl]
      exact hr
    · show Q5 Z A0 A1 S0 S1 K0 K1 M0 M1 L0 L1 h0 n0 _ T112.heap _
      rw [e112]
      exact ⟨(congrArg (fun z => some (Value.int z)) (show (own_ho (fun q r => decide (L0.getD q 0 < L1.getD r 0)) (fun q r => decide (L0.getD q 0 = L1.getD r 0)) L0.length 0 0 L1.length) = own_ha L0 L1 from by unfold own_ha; rw [if_neg (fun q => hc10 (by rw [Int32.lt_iff_toInt_lt, h0n, h1n]; omega))])), N112, rfl⟩
theorem own_and15 (x : Int32) : own_m16 (x &&& (15 : Int32)) := by
  have h := c_and x 15 (by decide)
  have e : (15 : Int32).toInt = 15 := rfl
  generalize (x &&& (15 : Int32)) = y at *
  have q : ∀ k : Int32, y.toInt = k.toInt → y = k := fun k r => Int32.toInt_inj.mp r
  have : y.toInt = 0 ∨ y.toInt = 1 ∨ y.toInt = 2 ∨ y.toInt = 3 ∨ y.toInt = 4 ∨ y.toInt = 5 ∨ y.toInt = 6 ∨ y.toInt = 7 ∨ y.toInt = 8 ∨ y.toInt = 9 ∨ y.toInt = 10 ∨ y.toInt = 11 ∨ y.toInt = 12 ∨ y.toInt = 13 ∨ y.toInt = 14 ∨ y.toInt = 15 := by omega
  rcases this with r | r | r | r | r | r | r | r | r | r | r | r | r | r | r | r
  · exact Or.inl (q 0 r)
  · exact Or.inr (Or.inl (q 1 r))
  · exact Or.inr (Or.inr (Or.inl (q 2 r)))
  · exact Or.inr (Or.inr (Or.inr (Or.inl (q 3 r))))
  · exact Or.inr (Or.inr (Or.inr (Or.inr (Or.inl (q 4 r)))))
  · exact Or.inr (Or.inr (Or.inr (Or.inr (Or.inr (Or.inl (q 5 r))))))
  · exact Or.inr (Or.inr (Or.inr (Or.inr (Or.inr (Or.inr (Or.inl (q 6 r)))))))
  · exact Or.inr (Or.inr (Or.inr (Or.inr (Or.inr (Or.inr (Or.inr (Or.inl (q 7 r))))))))
  · exact Or.inr (Or.inr (Or.inr (Or.inr (Or.inr (Or.inr (Or.inr (Or.inr (Or.inl (q 8 r)))))))))
  · exact Or.inr (Or.inr (Or.inr (Or.inr (Or.inr (Or.inr (Or.inr (Or.inr (Or.inr (Or.inl (q 9 r))))))))))
  · exact Or.inr (Or.inr (Or.inr (Or.inr (Or.inr (Or.inr (Or.inr (Or.inr (Or.inr (Or.inr (Or.inl (q 10 r)))))))))))
  · exact Or.inr (Or.inr (Or.inr (Or.inr (Or.inr (Or.inr (Or.inr (Or.inr (Or.inr (Or.inr (Or.inr (Or.inl (q 11 r))))))))))))
  · exact Or.inr (Or.inr (Or.inr (Or.inr (Or.inr (Or.inr (Or.inr (Or.inr (Or.inr (Or.inr (Or.inr (Or.inr (Or.inl (q 12 r)))))))))))))
  · exact Or.inr (Or.inr (Or.inr (Or.inr (Or.inr (Or.inr (Or.inr (Or.inr (Or.inr (Or.inr (Or.inr (Or.inr (Or.inr (Or.inl (q 13 r))))))))))))))
  · exact Or.inr (Or.inr (Or.inr (Or.inr (Or.inr (Or.inr (Or.inr (Or.inr (Or.inr (Or.inr (Or.inr (Or.inr (Or.inr (Or.inr (Or.inl (q 14 r)))))))))))))))
  · exact Or.inr (Or.inr (Or.inr (Or.inr (Or.inr (Or.inr (Or.inr (Or.inr (Or.inr (Or.inr (Or.inr (Or.inr (Or.inr (Or.inr (Or.inr (q 15 r)))))))))))))))
theorem own_len (m v0 v1 v2 v3 : Int32) (h : own_m16 m) : (own_cnt m).toInt = (((own_sel m v0 v1 v2 v3).length : Nat) : Int) ∧ (own_sel m v0 v1 v2 v3).length ≤ 4 := by
  rcases h with rfl | rfl | rfl | rfl | rfl | rfl | rfl | rfl | rfl | rfl | rfl | rfl | rfl | rfl | rfl | rfl
  · rw [own_sel0]; exact ⟨(by show (own_cnt (0 : Int32)).toInt = (0 : Int); decide), (Nat.le_of_ble_eq_true rfl)⟩
  · rw [own_sel1]; exact ⟨(by show (own_cnt (1 : Int32)).toInt = (1 : Int); decide), (Nat.le_of_ble_eq_true rfl)⟩
  · rw [own_sel2]; exact ⟨(by show (own_cnt (2 : Int32)).toInt = (1 : Int); decide), (Nat.le_of_ble_eq_true rfl)⟩
  · rw [own_sel3]; exact ⟨(by show (own_cnt (3 : Int32)).toInt = (2 : Int); decide), (Nat.le_of_ble_eq_true rfl)⟩
  · rw [own_sel4]; exact ⟨(by show (own_cnt (4 : Int32)).toInt = (1 : Int); decide), (Nat.le_of_ble_eq_true rfl)⟩
  · rw [own_sel5]; exact ⟨(by show (own_cnt (5 : Int32)).toInt = (2 : Int); decide), (Nat.le_of_ble_eq_true rfl)⟩
  · rw [own_sel6]; exact ⟨(by show (own_cnt (6 : Int32)).toInt = (2 : Int); decide), (Nat.le_of_ble_eq_true rfl)⟩
  · rw [own_sel7]; exact ⟨(by show (own_cnt (7 : Int32)).toInt = (3 : Int); decide), (Nat.le_of_ble_eq_true rfl)⟩
  · rw [own_sel8]; exact ⟨(by show (own_cnt (8 : Int32)).toInt = (1 : Int); decide), (Nat.le_of_ble_eq_true rfl)⟩
  · rw [own_sel9]; exact ⟨(by show (own_cnt (9 : Int32)).toInt = (2 : Int); decide), (Nat.le_of_ble_eq_true rfl)⟩
  · rw [own_sel10]; exact ⟨(by show (own_cnt (10 : Int32)).toInt = (2 : Int); decide), (Nat.le_of_ble_eq_true rfl)⟩
  · rw [own_sel11]; exact ⟨(by show (own_cnt (11 : Int32)).toInt = (3 : Int); decide), (Nat.le_of_ble_eq_true rfl)⟩
  · rw [own_sel12]; exact ⟨(by show (own_cnt (12 : Int32)).toInt = (2 : Int); decide), (Nat.le_of_ble_eq_true rfl)⟩
  · rw [own_sel13]; exact ⟨(by show (own_cnt (13 : Int32)).toInt = (3 : Int); decide), (Nat.le_of_ble_eq_true rfl)⟩
  · rw [own_sel14]; exact ⟨(by show (own_cnt (14 : Int32)).toInt = (3 : Int); decide), (Nat.le_of_ble_eq_true rfl)⟩
  · rw [own_sel15]; exact ⟨(by show (own_cnt (15 : Int32)).toInt = (4 : Int); decide), (Nat.le_of_ble_eq_true rfl)⟩
def own_v (v0 v1 v2 v3 : Int32) (i : Nat) : Int32 := if i = 0 then v0 else (if i = 1 then v1 else (if i = 2 then v2 else v3))
def own_ix (m : Int32) : List Nat := (if (m &&& (1 : Int32)) = (0 : Int32) then [] else [0]) ++ ((if (m &&& (2 : Int32)) = (0 : Int32) then [] else [1]) ++ ((if (m &&& (4 : Int32)) = (0 : Int32) then [] else [2]) ++ (if (m &&& (8 : Int32)) = (0 : Int32) then [] else [3])))
theorem own_selix (m v0 v1 v2 v3 : Int32) : own_sel m v0 v1 v2 v3 = (own_ix m).map (own_v v0 v1 v2 v3) := by
  unfold own_sel own_ix
  by_cases a : (m &&& (1 : Int32)) = (0 : Int32) <;> by_cases b : (m &&& (2 : Int32)) = (0 : Int32) <;> by_cases c : (m &&& (4 : Int32)) = (0 : Int32) <;> by_cases d : (m &&& (8 : Int32)) = (0 : Int32) <;> simp [a, b, c, d, own_v]
theorem own_ixle (m : Int32) : ∀ i ∈ own_ix m, i ≤ 3 := by
  intro i hi
  unfold own_ix at hi
  simp only [List.mem_append] at hi
  rcases hi with h | h | h | h <;> (split at h <;> simp at h) <;> omega
theorem own_mono (v0 v1 v2 v3 : Int32) (h1 : v0.toInt < v1.toInt) (h2 : v1.toInt < v2.toInt) (h3 : v2.toInt < v3.toInt) (i j : Nat) (hi : i ≤ 3) (hj : j ≤ 3) : ((own_v v0 v1 v2 v3 i < own_v v0 v1 v2 v3 j) ↔ i < j) ∧ ((own_v v0 v1 v2 v3 i = own_v v0 v1 v2 v3 j) ↔ i = j) := by
  rw [Int32.lt_iff_toInt_lt, ← Int32.toInt_inj]
  have a : i = 0 ∨ i = 1 ∨ i = 2 ∨ i = 3 := by omega
  have b : j = 0 ∨ j = 1 ∨ j = 2 ∨ j = 3 := by omega
  have e0 : own_v v0 v1 v2 v3 0 = v0 := rfl
  have e1 : own_v v0 v1 v2 v3 1 = v1 := rfl
  have e2 : own_v v0 v1 v2 v3 2 = v2 := rfl
  have e3 : own_v v0 v1 v2 v3 3 = v3 := rfl
  rcases a with rfl | rfl | rfl | rfl <;> rcases b with rfl | rfl | rfl | rfl <;> simp only [e0, e1, e2, e3] <;> first | omega | simp
theorem own_skc (p q : Nat → Bool) (la : Nat) (h : ∀ k, k < la → p k = q k) : ∀ (n k : Nat), k + n ≤ la → own_sk p k n = own_sk q k n
  | 0, _, _ => rfl
  | n + 1, k, hk => by
    rw [own_sk, own_sk, h k (by omega), own_skc p q la h n (k + 1) (by omega)]
theorem own_hoc (lt eq lt' eq' : Nat → Nat → Bool) (la lb : Nat) (h : ∀ k r, k < la → r < lb → lt k r = lt' k r ∧ eq k r = eq' k r) : ∀ (n i j : Nat), j + n = lb → i ≤ la → own_ho lt eq la i j n = own_ho lt' eq' la i j n
  | 0, _, _, _, _ => rfl
  | n + 1, i, j, hj, hi => by
    have e := own_skc (fun k => lt k j) (fun k => lt' k j) la (fun k hk => (h k j hk (by omega)).1) (la - i) i (by omega)
    have b := own_sk_le (fun k => lt' k j) (la - i) i
    rw [own_ho, own_ho, e]
    by_cases c : own_sk (fun k => lt' k j) i (la - i) = la
    · rw [if_pos c, if_pos c]
    · rw [if_neg c, if_neg c, (h _ j (by omega) (by omega)).2, own_hoc lt eq lt' eq' la lb h n _ (j + 1) (by omega) (by omega)]
def own_haN (L0 L1 : List Nat) : Int32 := if L0.length < L1.length then 0 else own_ho (fun q r => decide (L0.getD q 0 < L1.getD r 0)) (fun q r => decide (L0.getD q 0 = L1.getD r 0)) L0.length 0 0 L1.length
theorem own_map (f : Nat → Int32) (L : List Nat) (k : Nat) (hk : k < L.length) : (L.map f).getD k 0 = f (L.getD k 0) := by
  simp [List.getD_eq_getElem?_getD, List.getElem?_map, List.getElem?_eq_getElem hk]
theorem own_mem (L : List Nat) (k : Nat) (hk : k < L.length) : L.getD k 0 ∈ L := by
  simp [List.getD_eq_getElem?_getD, List.getElem?_eq_getElem hk]
theorem own_tr (v0 v1 v2 v3 : Int32) (h1 : v0.toInt < v1.toInt) (h2 : v1.toInt < v2.toInt) (h3 : v2.toInt < v3.toInt) (a b : Int32) : own_ha (own_sel a v0 v1 v2 v3) (own_sel b v0 v1 v2 v3) = own_haN (own_ix a) (own_ix b) := by
  rw [own_selix, own_selix]
  unfold own_ha own_haN
  rw [List.length_map, List.length_map]
  split
  · rfl
  · refine own_hoc _ _ _ _ _ (own_ix b).length (fun k r hk hr => ?_) _ 0 0 (Nat.zero_add _) (Nat.zero_le _)
    have m := own_mono v0 v1 v2 v3 h1 h2 h3 ((own_ix a).getD k 0) ((own_ix b).getD r 0) (own_ixle a _ (own_mem _ k hk)) (own_ixle b _ (own_mem _ r hr))
    simp only [own_map _ _ k hk, own_map _ _ r hr]
    exact ⟨decide_eq_decide.mpr m.1, decide_eq_decide.mpr m.2⟩
theorem own_table : ∀ a b : Fin 16, own_haN (own_ix (Int32.ofNat a.1)) (own_ix (Int32.ofNat b.1)) = if ((Int32.ofNat b.1) &&& ((Int32.ofNat a.1) ^^^ (-1 : Int32))) = (0 : Int32) then 1 else 0 := by decide +kernel
theorem own_fin (m : Int32) (h : own_m16 m) : ∃ a : Fin 16, m = Int32.ofNat a.1 := by
  rcases h with rfl | rfl | rfl | rfl | rfl | rfl | rfl | rfl | rfl | rfl | rfl | rfl | rfl | rfl | rfl | rfl
  · exact ⟨⟨0, by decide⟩, rfl⟩
  · exact ⟨⟨1, by decide⟩, rfl⟩
  · exact ⟨⟨2, by decide⟩, rfl⟩
  · exact ⟨⟨3, by decide⟩, rfl⟩
  · exact ⟨⟨4, by decide⟩, rfl⟩
  · exact ⟨⟨5, by decide⟩, rfl⟩
  · exact ⟨⟨6, by decide⟩, rfl⟩
  · exact ⟨⟨7, by decide⟩, rfl⟩
  · exact ⟨⟨8, by decide⟩, rfl⟩
  · exact ⟨⟨9, by decide⟩, rfl⟩
  · exact ⟨⟨10, by decide⟩, rfl⟩
  · exact ⟨⟨11, by decide⟩, rfl⟩
  · exact ⟨⟨12, by decide⟩, rfl⟩
  · exact ⟨⟨13, by decide⟩, rfl⟩
  · exact ⟨⟨14, by decide⟩, rfl⟩
  · exact ⟨⟨15, by decide⟩, rfl⟩
theorem own_law (v0 v1 v2 v3 : Int32) (h1 : v0.toInt < v1.toInt) (h2 : v1.toInt < v2.toInt) (h3 : v2.toInt < v3.toInt) (a b : Int32) (ha : own_m16 a) (hb : own_m16 b) : own_ha (own_sel a v0 v1 v2 v3) (own_sel b v0 v1 v2 v3) = if (b &&& (a ^^^ (-1 : Int32))) = (0 : Int32) then (1 : Int32) else (0 : Int32) := by
  rw [own_tr v0 v1 v2 v3 h1 h2 h3]
  obtain ⟨x, rfl⟩ := own_fin a ha
  obtain ⟨y, rfl⟩ := own_fin b hb
  exact own_table x y
theorem own_ord (x0 x1 x2 x3 : Int32) : ((-2147483648 : Int32) + (x0 &&& (1073741823 : Int32))).toInt < ((-1073741824 : Int32) + (x1 &&& (1073741823 : Int32))).toInt ∧ ((-1073741824 : Int32) + (x1 &&& (1073741823 : Int32))).toInt < (x2 &&& (1073741823 : Int32)).toInt ∧ (x2 &&& (1073741823 : Int32)).toInt < ((1073741824 : Int32) + (x3 &&& (1073741823 : Int32))).toInt := by
  have a0 := c_and x0 (1073741823 : Int32) (by decide)
  have a1 := c_and x1 (1073741823 : Int32) (by decide)
  have a2 := c_and x2 (1073741823 : Int32) (by decide)
  have a3 := c_and x3 (1073741823 : Int32) (by decide)
  have b0 := c_iadd (-2147483648 : Int32) (x0 &&& (1073741823 : Int32))
  have b1 := c_iadd (-1073741824 : Int32) (x1 &&& (1073741823 : Int32))
  have b3 := c_iadd (1073741824 : Int32) (x3 &&& (1073741823 : Int32))
  have r0 := rng32 ((-2147483648 : Int32) + (x0 &&& (1073741823 : Int32)))
  have r1 := rng32 ((-1073741824 : Int32) + (x1 &&& (1073741823 : Int32)))
  have r3 := rng32 ((1073741824 : Int32) + (x3 &&& (1073741823 : Int32)))
  have e0 : (-2147483648 : Int32).toInt = -2147483648 := rfl
  have e1 : (-1073741824 : Int32).toInt = -1073741824 := rfl
  have e3 : (1073741824 : Int32).toInt = 1073741824 := rfl
  have em : (1073741823 : Int32).toInt = 1073741823 := rfl
  rw [e0] at b0; rw [e1] at b1; rw [e3] at b3
  omega
theorem pn_0 : plainName "com/example/postil/postil/domain/ConjunctionHoldsAllPinLaw" = true := by first | (simp [plainName, overriddenIn]; done) | decide +kernel
theorem pd_0_0 : parseMethodDescriptor "(IIIII)[I" = some ⟨[.int, .int, .int, .int, .int], some (.array .int)⟩ := by decide +kernel
theorem pd_0_1 : parseMethodDescriptor "([I)V" = some ⟨[(.array .int)], none⟩ := by decide +kernel
theorem pd_0_2 : parseMethodDescriptor "(Lcom/example/postil/postil/domain/Conjunction;)Z" = some ⟨[(.object "com/example/postil/postil/domain/Conjunction")], some .boolean⟩ := by decide +kernel
theorem ef_0 (m : MethodId) (P0 : Int32) (P1 : Int32) (P2 : Int32) (P3 : Int32) (P4 : Int32) : entryFrame m #[(.int P0), (.int P1), (.int P2), (.int P3), (.int P4)] maxLocals = mkF m 0 #[.val (.int P0), .val (.int P1), .val (.int P2), .val (.int P3), .val (.int P4), .unset, .unset, .unset, .unset, .unset, .unset, .unset, .unset, .unset, .unset, .unset] [] := by first | (simp [entryFrame, mkF, argsToLocals, Value.category, maxLocals]; done) | rfl
def Q0 (Z : State) (P0 : Int32) (P1 : Int32) (P2 : Int32) (P3 : Int32) (P4 : Int32) (h0 : Heap) (n0 : Nat) (v : Option Value) (h : Heap) (L : List Loc) : Prop := v = some (.int (1 : Int32)) ∧ Fr n0 L
set_option maxRecDepth 65536 in
set_option maxHeartbeats 40000000 in
theorem rm0 (l : Launch) (Z : State) (a0 : Array Value) (hw : ∀ d ∈ tables_1, d.before a0 Z = true) (ws : List Jvm.Cond) (P0 : Int32) (P1 : Int32) (P2 : Int32) (P3 : Int32) (P4 : Int32) (h0 : Heap) (n0 : Nat) (Z0 : n0 ≤ h0.size) :
    MetFree l x (head1 (Jvm.Cond.code x code maxLocals ret :: ws) room_1) (fun a U => a = #[(.int P0), (.int P1), (.int P2), (.int P3), (.int P4)] ∧ Z.Warmed39 U.vm ∧ U.heap = h0) (fun _ _ _ _ _ => True) (fun _ U o U' => ∃ v L, o = .returned v ∧ Q0 Z P0 P1 P2 P3 P4 h0 n0 v U'.heap L ∧ FrameEnd U o U' L 16 128) := by
  refine MetFree.of_bodySF (plainFor_of_name pn_0) hisR ?_
  intro p e s m args below meth c s₁ Bd hml0 hP hK
  obtain ⟨rfl, hZ, hh⟩ := hP
  have hx := Bd.exec
  have hby := Bd.bytes
  have hml : c.maxLocals = 16 := hml0
  have hown : s.vm.findClass "com/example/postil/postil/domain/ConjunctionHoldsAllPinLaw" = some m.cls := findClass_of_methodNamed Bd.named
  have hnm := (name_of_methodNamed Bd.named Bd.method).1
  have X0 : Stand p l e room_1 s m #[(.int P0), (.int P1), (.int P2), (.int P3), (.int P4)] below meth c s₁ [] 0 0 := Stand.of_body Bd
  have e0 : s₁.heap = h0 := by rw [← hh, Bd.state]; rfl
  have N0 := Fr.nil n0
  have pre0 : ∀ t, Steps p.tables e below (s₁.setTop (mkF m 0 #[.val (.int P0), .val (.int P1), .val (.int P2), .val (.int P3), .val (.int P4), .unset, .unset, .unset, .unset, .unset, .unset, .unset, .unset, .unset, .unset, .unset] [])) t → Steps p.tables e below (s₁.setTop (entryFrame m #[(.int P0), (.int P1), (.int P2), (.int P3), (.int P4)] maxLocals)) t := fun t k => castTop (ef_0 m P0 P1 P2 P3 P4) k
  obtain ⟨_, _, ⟨T101, L101, k101, n101⟩, -, X101, ⟨Lc101, hQ101, l101, y101, z101⟩, st101⟩ := Jvm.LawKit.callS X0 hx (y := (⟨"com/example/postil/postil/domain/ConjunctionHoldsAllPinLaw", "build", "(IIIII)[I"⟩ : MethodName)) hown (mvT hZ (hw _ (List.mem_of_getElem? (i := 4) rfl))) (mvT hZ (hw _ (List.mem_of_getElem? (i := 5) rfl))) (mvT hZ (hw _ (List.mem_of_getElem? (i := 6) rfl))) (mvT hZ (hw _ (List.mem_of_getElem? (i := 7) rfl))) (by decide) (backOf (W := 0) (rm1 l Z a0 hw [] (P4 &&& (15 : Int32)) ((-2147483648 : Int32) + (P0 &&& (1073741823 : Int32))) ((-1073741824 : Int32) + (P1 &&& (1073741823 : Int32))) (P2 &&& (1073741823 : Int32)) ((1073741824 : Int32) + (P3 &&& (1073741823 : Int32))) h0 n0 Z0 (show own_m16 (P4 &&& (15 : Int32)) from (own_and15 _))) hZ (hw _ (List.mem_of_getElem? (i := 7) rfl)) (hw _ (List.mem_of_getElem? (i := 6) rfl)) (by decide) (by decide)) (g := (mkF m 59 #[.val (.int P0), .val (.int P1), .val (.int P2), .val (.int P3), .val (.int P4), .val (.int ((-2147483648 : Int32) + (P0 &&& (1073741823 : Int32)))), .val (.int ((-1073741824 : Int32) + (P1 &&& (1073741823 : Int32)))), .val (.int (P2 &&& (1073741823 : Int32))), .val (.int ((1073741824 : Int32) + (P3 &&& (1073741823 : Int32)))), .val (.int (P4 &&& (15 : Int32))), .val (.int (((P4.toUInt32 >>> ((4 : Int32) &&& 31).toUInt32).toInt32) &&& (15 : Int32))), .unset, .unset, .unset, .unset, .unset] [(.int ((1073741824 : Int32) + (P3 &&& (1073741823 : Int32)))), (.int (P2 &&& (1073741823 : Int32))), (.int ((-1073741824 : Int32) + (P1 &&& (1073741823 : Int32)))), (.int ((-2147483648 : Int32) + (P0 &&& (1073741823 : Int32)))), (.int (P4 &&& (15 : Int32)))])) rfl (by rw [hml]; rfl) (argsL := [(.int (P4 &&& (15 : Int32))), (.int ((-2147483648 : Int32) + (P0 &&& (1073741823 : Int32)))), (.int ((-1073741824 : Int32) + (P1 &&& (1073741823 : Int32)))), (.int (P2 &&& (1073741823 : Int32))), (.int ((1073741824 : Int32) + (P3 &&& (1073741823 : Int32))))]) (rest := []) (lenOf pd_0_0 rfl) rfl (by show 2 * 0 + _ ≤ _; exact Nat.le_of_eq rfl) (hb hby at_59) (fun _ _ => ⟨rfl, e0, (by decide : 0 + 1 ≤ _), (by decide : 0 + 4 ≤ _)⟩)
  dsimp only [Pt.U, Pt.locs, Pt.cells, Pt.slots] at X101 l101 y101 z101 st101 hQ101
  subst l101 y101 z101
  obtain ⟨x101_R0, x101_K0, rfl, N101q, K101, lb101_0, p101_0, p101_1⟩ := hQ101
  have N101 := Fr.app N0 N101q
  have g_x101_R0 : n0 ≤ x101_R0 := Nat.le_trans Z0 lb101_0
  have Z102 : n0 ≤ T101.heap.size := Nat.le_trans Z0 K101.1
  obtain ⟨_, _, ⟨T103, L103, k103, n103⟩, -, X103, ⟨Lc103, hQ103, l103, y103, z103⟩, st103⟩ := Jvm.LawKit.callS X101 hx (y := (⟨"com/example/postil/postil/domain/ConjunctionHoldsAllPinLaw", "build", "(IIIII)[I"⟩ : MethodName)) hown (mvT hZ (hw _ (List.mem_of_getElem? (i := 4) rfl))) (mvT hZ (hw _ (List.mem_of_getElem? (i := 5) rfl))) (mvT hZ (hw _ (List.mem_of_getElem? (i := 6) rfl))) (mvT hZ (hw _ (List.mem_of_getElem? (i := 7) rfl))) (by decide) (backOf (W := 0) (rm1 l Z a0 hw [] (((P4.toUInt32 >>> ((4 : Int32) &&& 31).toUInt32).toInt32) &&& (15 : Int32)) ((-2147483648 : Int32) + (P0 &&& (1073741823 : Int32))) ((-1073741824 : Int32) + (P1 &&& (1073741823 : Int32))) (P2 &&& (1073741823 : Int32)) ((1073741824 : Int32) + (P3 &&& (1073741823 : Int32))) T101.heap n0 Z102 (show own_m16 (((P4.toUInt32 >>> ((4 : Int32) &&& 31).toUInt32).toInt32) &&& (15 : Int32)) from (own_and15 _))) hZ (hw _ (List.mem_of_getElem? (i := 7) rfl)) (hw _ (List.mem_of_getElem? (i := 6) rfl)) (by decide) (by decide)) (g := (mkF m 74 #[.val (.int P0), .val (.int P1), .val (.int P2), .val (.int P3), .val (.int P4), .val (.int ((-2147483648 : Int32) + (P0 &&& (1073741823 : Int32)))), .val (.int ((-1073741824 : Int32) + (P1 &&& (1073741823 : Int32)))), .val (.int (P2 &&& (1073741823 : Int32))), .val (.int ((1073741824 : Int32) + (P3 &&& (1073741823 : Int32)))), .val (.int (P4 &&& (15 : Int32))), .val (.int (((P4.toUInt32 >>> ((4 : Int32) &&& 31).toUInt32).toInt32) &&& (15 : Int32))), .val (.ref x101_R0), .unset, .unset, .unset, .unset] [(.int ((1073741824 : Int32) + (P3 &&& (1073741823 : Int32)))), (.int (P2 &&& (1073741823 : Int32))), (.int ((-1073741824 : Int32) + (P1 &&& (1073741823 : Int32)))), (.int ((-2147483648 : Int32) + (P0 &&& (1073741823 : Int32)))), (.int (((P4.toUInt32 >>> ((4 : Int32) &&& 31).toUInt32).toInt32) &&& (15 : Int32)))])) rfl (by rw [hml]; rfl) (argsL := [(.int (((P4.toUInt32 >>> ((4 : Int32) &&& 31).toUInt32).toInt32) &&& (15 : Int32))), (.int ((-2147483648 : Int32) + (P0 &&& (1073741823 : Int32)))), (.int ((-1073741824 : Int32) + (P1 &&& (1073741823 : Int32)))), (.int (P2 &&& (1073741823 : Int32))), (.int ((1073741824 : Int32) + (P3 &&& (1073741823 : Int32))))]) (rest := []) (lenOf pd_0_0 rfl) rfl (by show 2 * 0 + _ ≤ _; exact Nat.le_of_eq rfl) (hb hby at_74) (fun _ _ => ⟨rfl, rfl, (by decide : 1 + 1 ≤ _), (by decide : 4 + 4 ≤ _)⟩)
  dsimp only [Pt.U, Pt.locs, Pt.cells, Pt.slots] at X103 l103 y103 z103 st103 hQ103
  subst l103 y103 z103
  obtain ⟨x103_R0, x103_K0, rfl, N103q, K103, lb103_0, p103_0, p103_1⟩ := hQ103
  have N103 := Fr.app N101 N103q
  have ne104 : x101_R0 ≠ x103_R0 := Nat.ne_of_lt (Nat.lt_of_lt_of_le p101_0.lt lb103_0)
  have g_x103_R0 : n0 ≤ x103_R0 := Nat.le_trans Z102 lb103_0
  have Z105 : n0 ≤ T103.heap.size := Nat.le_trans Z102 K103.1
  obtain ⟨T106, h106, X106, e106, E106, A106, D106, -, st106⟩ := newO X103 hx hZ hown (hw _ (List.mem_of_getElem? (i := 9) rfl)) (hw _ (List.mem_of_getElem? (i := 10) rfl)) (hw _ (List.mem_of_getElem? (i := 11) rfl)) rfl (g := (mkF m 79 #[.val (.int P0), .val (.int P1), .val (.int P2), .val (.int P3), .val (.int P4), .val (.int ((-2147483648 : Int32) + (P0 &&& (1073741823 : Int32)))), .val (.int ((-1073741824 : Int32) + (P1 &&& (1073741823 : Int32)))), .val (.int (P2 &&& (1073741823 : Int32))), .val (.int ((1073741824 : Int32) + (P3 &&& (1073741823 : Int32)))), .val (.int (P4 &&& (15 : Int32))), .val (.int (((P4.toUInt32 >>> ((4 : Int32) &&& 31).toUInt32).toInt32) &&& (15 : Int32))), .val (.ref x101_R0), .val (.ref x103_R0), .unset, .unset, .unset] [])) rfl (hb hby at_79) (by decide) (by decide)
  obtain ⟨b106, q106⟩ : ∃ z, z = T103.heap.size := ⟨_, rfl⟩
  rw [← q106] at A106 D106 st106
  have c108 : Exa Z T103.heap x101_R0 "[I" := (p101_0.keep K103)
  have ne107 : x101_R0 ≠ b106 := Nat.ne_of_lt (Nat.lt_of_lt_of_le c108.lt (Nat.le_of_eq q106.symm))
  have ne109 : x103_R0 ≠ b106 := Nat.ne_of_lt (Nat.lt_of_lt_of_le p103_0.lt (Nat.le_of_eq q106.symm))
  have g_b106 : n0 ≤ b106 := Nat.le_trans Z105 (Nat.le_of_eq q106.symm)
  have Z110 : n0 ≤ h106.size := Nat.le_trans Z105 E106.1
  have F106_19 : Fld Z h106 b106 "com/example/postil/postil/domain/Conjunction" "sources" "[I" .null := D106 (Or.inr (hw _ (List.mem_of_getElem? (i := 19) rfl))) (ty := (.array .int)) (by decide)
  have F106_25 : Fld Z h106 b106 "com/example/postil/postil/domain/Conjunction" "hash" "I" (.int (0 : Int32)) := D106 (Or.inr (hw _ (List.mem_of_getElem? (i := 25) rfl))) (ty := .int) (by decide)
  have c111 : Arv Z h106 x101_R0 x101_K0 .int (own_cnt (P4 &&& (15 : Int32))) ((own_sel (P4 &&& (15 : Int32)) ((-2147483648 : Int32) + (P0 &&& (1073741823 : Int32))) ((-1073741824 : Int32) + (P1 &&& (1073741823 : Int32))) (P2 &&& (1073741823 : Int32)) ((1073741824 : Int32) + (P3 &&& (1073741823 : Int32)))).map Value.int) (.int (0 : Int32)) := ((p101_1.keep K103 nin0).ext E106)
  have c112 : Exa Z h106 x101_R0 "[I" := (c108.ext E106)
  obtain ⟨_, _, ⟨T113, L113, k113, n113⟩, -, X113, ⟨Lc113, hQ113, l113, y113, z113⟩, st113⟩ := X106.specialBack hx (y := (⟨"com/example/postil/postil/domain/Conjunction", "<init>", "([I)V"⟩ : MethodName)) rfl hown (mvT hZ (hw _ (List.mem_of_getElem? (i := 12) rfl))) (mvT hZ (hw _ (List.mem_of_getElem? (i := 13) rfl))) (mvT hZ (hw _ (List.mem_of_getElem? (i := 14) rfl))) (by decide) (backOf (W := 1) (rm2 l Z a0 hw [] b106 x101_R0 .null (0 : Int32) x101_K0 (own_cnt (P4 &&& (15 : Int32))) (own_sel (P4 &&& (15 : Int32)) ((-2147483648 : Int32) + (P0 &&& (1073741823 : Int32))) ((-1073741824 : Int32) + (P1 &&& (1073741823 : Int32))) (P2 &&& (1073741823 : Int32)) ((1073741824 : Int32) + (P3 &&& (1073741823 : Int32)))) h106 n0 Z110 F106_19 F106_25 A106 c111 c112 (show x101_R0 ≠ b106 from ne107) g_b106) hZ (hw _ (List.mem_of_getElem? (i := 14) rfl)) (hw _ (List.mem_of_getElem? (i := 11) rfl)) (by decide) (by decide)) (g := (mkF m 85 #[.val (.int P0), .val (.int P1), .val (.int P2), .val (.int P3), .val (.int P4), .val (.int ((-2147483648 : Int32) + (P0 &&& (1073741823 : Int32)))), .val (.int ((-1073741824 : Int32) + (P1 &&& (1073741823 : Int32)))), .val (.int (P2 &&& (1073741823 : Int32))), .val (.int ((1073741824 : Int32) + (P3 &&& (1073741823 : Int32)))), .val (.int (P4 &&& (15 : Int32))), .val (.int (((P4.toUInt32 >>> ((4 : Int32) &&& 31).toUInt32).toInt32) &&& (15 : Int32))), .val (.ref x101_R0), .val (.ref x103_R0), .unset, .unset, .unset] [(.ref x101_R0), (.ref b106), (.ref b106)])) rfl (by rw [hml]; rfl) (Steps.refl _) (a := b106) (argsL := [(.ref x101_R0)]) (rest := [(.ref b106)]) (lenOf pd_0_1 rfl) rfl (by show 2 * 0 + _ ≤ _; exact Nat.le_of_eq rfl) (hb hby at_85) (fun _ _ => ⟨rfl, e106, (by decide : 3 + 0 ≤ _), (by decide : 10 + 0 ≤ _)⟩)
  dsimp only [Pt.U, Pt.locs, Pt.cells, Pt.slots] at X113 l113 y113 z113 st113 hQ113
  subst l113 y113 z113
  obtain ⟨rfl, N113q, K113, p113_0, p113_1⟩ := hQ113
  have N113 := Fr.app N103 N113q
  have Z114 : n0 ≤ T113.heap.size := Nat.le_trans Z110 K113.1
  obtain ⟨T115, h115, X115, e115, E115, A115, D115, -, st115⟩ := newO X113 hx hZ hown (hw _ (List.mem_of_getElem? (i := 9) rfl)) (hw _ (List.mem_of_getElem? (i := 10) rfl)) (hw _ (List.mem_of_getElem? (i := 11) rfl)) rfl (g := (mkF m 90 #[.val (.int P0), .val (.int P1), .val (.int P2), .val (.int P3), .val (.int P4), .val (.int ((-2147483648 : Int32) + (P0 &&& (1073741823 : Int32)))), .val (.int ((-1073741824 : Int32) + (P1 &&& (1073741823 : Int32)))), .val (.int (P2 &&& (1073741823 : Int32))), .val (.int ((1073741824 : Int32) + (P3 &&& (1073741823 : Int32)))), .val (.int (P4 &&& (15 : Int32))), .val (.int (((P4.toUInt32 >>> ((4 : Int32) &&& 31).toUInt32).toInt32) &&& (15 : Int32))), .val (.ref x101_R0), .val (.ref x103_R0), .val (.ref b106), .unset, .unset] [])) rfl (hb hby at_90) (by decide) (by decide)
  obtain ⟨b115, q115⟩ : ∃ z, z = T113.heap.size := ⟨_, rfl⟩
  rw [← q115] at A115 D115 st115
  have c117 : Exa Z T113.heap x101_R0 "[I" := (c112.keep K113)
  have ne116 : x101_R0 ≠ b115 := Nat.ne_of_lt (Nat.lt_of_lt_of_le c117.lt (Nat.le_of_eq q115.symm))
  have c119 : Exa Z T113.heap x103_R0 "[I" := ((p103_0.ext E106).keep K113)
  have ne118 : x103_R0 ≠ b115 := Nat.ne_of_lt (Nat.lt_of_lt_of_le c119.lt (Nat.le_of_eq q115.symm))
  have ne120 : b106 ≠ b115 := Nat.ne_of_lt (Nat.lt_of_lt_of_le p113_0.lt (Nat.le_of_eq q115.symm))
  have g_b115 : n0 ≤ b115 := Nat.le_trans Z114 (Nat.le_of_eq q115.symm)
  have Z121 : n0 ≤ h115.size := Nat.le_trans Z114 E115.1
  have F115_19 : Fld Z h115 b115 "com/example/postil/postil/domain/Conjunction" "sources" "[I" .null := D115 (Or.inr (hw _ (List.mem_of_getElem? (i := 19) rfl))) (ty := (.array .int)) (by decide)
  have F115_25 : Fld Z h115 b115 "com/example/postil/postil/domain/Conjunction" "hash" "I" (.int (0 : Int32)) := D115 (Or.inr (hw _ (List.mem_of_getElem? (i := 25) rfl))) (ty := .int) (by decide)
  have c122 : Arv Z h115 x103_R0 x103_K0 .int (own_cnt (((P4.toUInt32 >>> ((4 : Int32) &&& 31).toUInt32).toInt32) &&& (15 : Int32))) ((own_sel (((P4.toUInt32 >>> ((4 : Int32) &&& 31).toUInt32).toInt32) &&& (15 : Int32)) ((-2147483648 : Int32) + (P0 &&& (1073741823 : Int32))) ((-1073741824 : Int32) + (P1 &&& (1073741823 : Int32))) (P2 &&& (1073741823 : Int32)) ((1073741824 : Int32) + (P3 &&& (1073741823 : Int32)))).map Value.int) (.int (0 : Int32)) := (((p103_1.ext E106).keep K113 (ninS ne109 nin0)).ext E115)
  have c123 : Exa Z h115 x103_R0 "[I" := (c119.ext E115)
  obtain ⟨_, _, ⟨T124, L124, k124, n124⟩, -, X124, ⟨Lc124, hQ124, l124, y124, z124⟩, st124⟩ := X115.specialBack hx (y := (⟨"com/example/postil/postil/domain/Conjunction", "<init>", "([I)V"⟩ : MethodName)) rfl hown (mvT hZ (hw _ (List.mem_of_getElem? (i := 12) rfl))) (mvT hZ (hw _ (List.mem_of_getElem? (i := 13) rfl))) (mvT hZ (hw _ (List.mem_of_getElem? (i := 14) rfl))) (by decide) (backOf (W := 1) (rm2 l Z a0 hw [] b115 x103_R0 .null (0 : Int32) x103_K0 (own_cnt (((P4.toUInt32 >>> ((4 : Int32) &&& 31).toUInt32).toInt32) &&& (15 : Int32))) (own_sel (((P4.toUInt32 >>> ((4 : Int32) &&& 31).toUInt32).toInt32) &&& (15 : Int32)) ((-2147483648 : Int32) + (P0 &&& (1073741823 : Int32))) ((-1073741824 : Int32) + (P1 &&& (1073741823 : Int32))) (P2 &&& (1073741823 : Int32)) ((1073741824 : Int32) + (P3 &&& (1073741823 : Int32)))) h115 n0 Z121 F115_19 F115_25 A115 c122 c123 (show x103_R0 ≠ b115 from ne118) g_b115) hZ (hw _ (List.mem_of_getElem? (i := 14) rfl)) (hw _ (List.mem_of_getElem? (i := 11) rfl)) (by decide) (by decide)) (g := (mkF m 96 #[.val (.int P0), .val (.int P1), .val (.int P2), .val (.int P3), .val (.int P4), .val (.int ((-2147483648 : Int32) + (P0 &&& (1073741823 : Int32)))), .val (.int ((-1073741824 : Int32) + (P1 &&& (1073741823 : Int32)))), .val (.int (P2 &&& (1073741823 : Int32))), .val (.int ((1073741824 : Int32) + (P3 &&& (1073741823 : Int32)))), .val (.int (P4 &&& (15 : Int32))), .val (.int (((P4.toUInt32 >>> ((4 : Int32) &&& 31).toUInt32).toInt32) &&& (15 : Int32))), .val (.ref x101_R0), .val (.ref x103_R0), .val (.ref b106), .unset, .unset] [(.ref x103_R0), (.ref b115), (.ref b115)])) rfl (by rw [hml]; rfl) (Steps.refl _) (a := b115) (argsL := [(.ref x103_R0)]) (rest := [(.ref b115)]) (lenOf pd_0_1 rfl) rfl (by show 2 * 0 + _ ≤ _; exact Nat.le_of_eq rfl) (hb hby at_96) (fun _ _ => ⟨rfl, e115, (by decide : 4 + 0 ≤ _), (by decide : 12 + 0 ≤ _)⟩)
  dsimp only [Pt.U, Pt.locs, Pt.cells, Pt.slots] at X124 l124 y124 z124 st124 hQ124
  subst l124 y124 z124
  obtain ⟨rfl, N124q, K124, p124_0, p124_1⟩ := hQ124
  have N124 := Fr.app N113 N124q
  have Z125 : n0 ≤ T124.heap.size := Nat.le_trans Z121 K124.1
  have pre126 : ∀ t, Steps p.tables e below (T124.setTop (mkF m 116 #[.val (.int P0), .val (.int P1), .val (.int P2), .val (.int P3), .val (.int P4), .val (.int ((-2147483648 : Int32) + (P0 &&& (1073741823 : Int32)))), .val (.int ((-1073741824 : Int32) + (P1 &&& (1073741823 : Int32)))), .val (.int (P2 &&& (1073741823 : Int32))), .val (.int ((1073741824 : Int32) + (P3 &&& (1073741823 : Int32)))), .val (.int (P4 &&& (15 : Int32))), .val (.int (((P4.toUInt32 >>> ((4 : Int32) &&& 31).toUInt32).toInt32) &&& (15 : Int32))), .val (.ref x101_R0), .val (.ref x103_R0), .val (.ref b106), .val (.ref b115), .unset] [(.int (if ((((P4.toUInt32 >>> ((4 : Int32) &&& 31).toUInt32).toInt32) &&& (15 : Int32)) &&& ((P4 &&& (15 : Int32)) ^^^ (-1 : Int32))) = (0 : Int32) then (1 : Int32) else (0 : Int32)))])) t → Steps p.tables e below (s₁.setTop (entryFrame m #[(.int P0), (.int P1), (.int P2), (.int P3), (.int P4)] maxLocals)) t := fun t kt => pre0 t (by
      show Steps p.tables e below (s₁.setTop (mkF m 0 #[.val (.int P0), .val (.int P1), .val (.int P2), .val (.int P3), .val (.int P4), .unset, .unset, .unset, .unset, .unset, .unset, .unset, .unset, .unset, .unset, .unset] [])) _
      refine X0.ldcInt hx hown (mvT hZ (hw _ (List.mem_of_getElem? (i := 0) rfl))) (g := (mkF m 0 #[.val (.int P0), .val (.int P1), .val (.int P2), .val (.int P3), .val (.int P4), .unset, .unset, .unset, .unset, .unset, .unset, .unset, .unset, .unset, .unset, .unset] [])) rfl (hb hby at_0) _ ?_
      show Steps p.tables e below (s₁.setTop (mkF m 2 #[.val (.int P0), .val (.int P1), .val (.int P2), .val (.int P3), .val (.int P4), .unset, .unset, .unset, .unset, .unset, .unset, .unset, .unset, .unset, .unset, .unset] [(.int (-2147483648 : Int32))])) _
      refine XS.iloadN X0.here hx rfl (hb hby at_2) rfl ?_
      show Steps p.tables e below (s₁.setTop (mkF m 3 #[.val (.int P0), .val (.int P1), .val (.int P2), .val (.int P3), .val (.int P4), .unset, .unset, .unset, .unset, .unset, .unset, .unset, .unset, .unset, .unset, .unset] [(.int P0), (.int (-2147483648 : Int32))])) _
      refine X0.ldcInt hx hown (mvT hZ (hw _ (List.mem_of_getElem? (i := 1) rfl))) (g := (mkF m 3 #[.val (.int P0), .val (.int P1), .val (.int P2), .val (.int P3), .val (.int P4), .unset, .unset, .unset, .unset, .unset, .unset, .unset, .unset, .unset, .unset, .unset] [(.int P0), (.int (-2147483648 : Int32))])) rfl (hb hby at_3) _ ?_
      show Steps p.tables e below (s₁.setTop (mkF m 5 #[.val (.int P0), .val (.int P1), .val (.int P2), .val (.int P3), .val (.int P4), .unset, .unset, .unset, .unset, .unset, .unset, .unset, .unset, .unset, .unset, .unset] [(.int (1073741823 : Int32)), (.int P0), (.int (-2147483648 : Int32))])) _
      refine XS.iand X0.here hx rfl (hb hby at_5) rfl ?_
      show Steps p.tables e below (s₁.setTop (mkF m 6 #[.val (.int P0), .val (.int P1), .val (.int P2), .val (.int P3), .val (.int P4), .unset, .unset, .unset, .unset, .unset, .unset, .unset, .unset, .unset, .unset, .unset] [(.int (P0 &&& (1073741823 : Int32))), (.int (-2147483648 : Int32))])) _
      refine XS.iadd X0.here hx rfl (hb hby at_6) rfl ?_
      show Steps p.tables e below (s₁.setTop (mkF m 7 #[.val (.int P0), .val (.int P1), .val (.int P2), .val (.int P3), .val (.int P4), .unset, .unset, .unset, .unset, .unset, .unset, .unset, .unset, .unset, .unset, .unset] [(.int ((-2147483648 : Int32) + (P0 &&& (1073741823 : Int32))))])) _
      refine XS.istore X0.here hx rfl (hb hby at_7) rfl (l' := #[.val (.int P0), .val (.int P1), .val (.int P2), .val (.int P3), .val (.int P4), .val (.int ((-2147483648 : Int32) + (P0 &&& (1073741823 : Int32)))), .unset, .unset, .unset, .unset, .unset, .unset, .unset, .unset, .unset, .unset]) rfl ?_
      show Steps p.tables e below (s₁.setTop (mkF m 9 #[.val (.int P0), .val (.int P1), .val (.int P2), .val (.int P3), .val (.int P4), .val (.int ((-2147483648 : Int32) + (P0 &&& (1073741823 : Int32)))), .unset, .unset, .unset, .unset, .unset, .unset, .unset, .unset, .unset, .unset] [])) _
      refine X0.ldcInt hx hown (mvT hZ (hw _ (List.mem_of_getElem? (i := 2) rfl))) (g := (mkF m 9 #[.val (.int P0), .val (.int P1), .val (.int P2), .val (.int P3), .val (.int P4), .val (.int ((-2147483648 : Int32) + (P0 &&& (1073741823 : Int32)))), .unset, .unset, .unset, .unset, .unset, .unset, .unset, .unset, .unset, .unset] [])) rfl (hb hby at_9) _ ?_
      show Steps p.tables e below (s₁.setTop (mkF m 11 #[.val (.int P0), .val (.int P1), .val (.int P2), .val (.int P3), .val (.int P4), .val (.int ((-2147483648 : Int32) + (P0 &&& (1073741823 : Int32)))), .unset, .unset, .unset, .unset, .unset, .unset, .unset, .unset, .unset, .unset] [(.int (-1073741824 : Int32))])) _
      refine XS.iloadN X0.here hx rfl (hb hby at_11) rfl ?_
      show Steps p.tables e below (s₁.setTop (mkF m 12 #[.val (.int P0), .val (.int P1), .val (.int P2), .val (.int P3), .val (.int P4), .val (.int ((-2147483648 : Int32) + (P0 &&& (1073741823 : Int32)))), .unset, .unset, .unset, .unset, .unset, .unset, .unset, .unset, .unset, .unset] [(.int P1), (.int (-1073741824 : Int32))])) _
      refine X0.ldcInt hx hown (mvT hZ (hw _ (List.mem_of_getElem? (i := 1) rfl))) (g := (mkF m 12 #[.val (.int P0), .val (.int P1), .val (.int P2), .val (.int P3), .val (.int P4), .val (.int ((-2147483648 : Int32) + (P0 &&& (1073741823 : Int32)))), .unset, .unset, .unset, .unset, .unset, .unset, .unset, .unset, .unset, .unset] [(.int P1), (.int (-1073741824 : Int32))])) rfl (hb hby at_12) _ ?_
      show Steps p.tables e below (s₁.setTop (mkF m 14 #[.val (.int P0), .val (.int P1), .val (.int P2), .val (.int P3), .val (.int P4), .val (.int ((-2147483648 : Int32) + (P0 &&& (1073741823 : Int32)))), .unset, .unset, .unset, .unset, .unset, .unset, .unset, .unset, .unset, .unset] [(.int (1073741823 : Int32)), (.int P1), (.int (-1073741824 : Int32))])) _
      refine XS.iand X0.here hx rfl (hb hby at_14) rfl ?_
      show Steps p.tables e below (s₁.setTop (mkF m 15 #[.val (.int P0), .val (.int P1), .val (.int P2), .val (.int P3), .val (.int P4), .val (.int ((-2147483648 : Int32) + (P0 &&& (1073741823 : Int32)))), .unset, .unset, .unset, .unset, .unset, .unset, .unset, .unset, .unset, .unset] [(.int (P1 &&& (1073741823 : Int32))), (.int (-1073741824 : Int32))])) _
      refine XS.iadd X0.here hx rfl (hb hby at_15) rfl ?_
      show Steps p.tables e below (s₁.setTop (mkF m 16 #[.val (.int P0), .val (.int P1), .val (.int P2), .val (.int P3), .val (.int P4), .val (.int ((-2147483648 : Int32) + (P0 &&& (1073741823 : Int32)))), .unset, .unset, .unset, .unset, .unset, .unset, .unset, .unset, .unset, .unset] [(.int ((-1073741824 : Int32) + (P1 &&& (1073741823 : Int32))))])) _
      refine XS.istore X0.here hx rfl (hb hby at_16) rfl (l' := #[.val (.int P0), .val (.int P1), .val (.int P2), .val (.int P3), .val (.int P4), .val (.int ((-2147483648 : Int32) + (P0 &&& (1073741823 : Int32)))), .val (.int ((-1073741824 : Int32) + (P1 &&& (1073741823 : Int32)))), .unset, .unset, .unset, .unset, .unset, .unset, .unset, .unset, .unset]) rfl ?_
      show Steps p.tables e below (s₁.setTop (mkF m 18 #[.val (.int P0), .val (.int P1), .val (.int P2), .val (.int P3), .val (.int P4), .val (.int ((-2147483648 : Int32) + (P0 &&& (1073741823 : Int32)))), .val (.int ((-1073741824 : Int32) + (P1 &&& (1073741823 : Int32)))), .unset, .unset, .unset, .unset, .unset, .unset, .unset, .unset, .unset] [])) _
      refine XS.iloadN X0.here hx rfl (hb hby at_18) rfl ?_
      show Steps p.tables e below (s₁.setTop (mkF m 19 #[.val (.int P0), .val (.int P1), .val (.int P2), .val (.int P3), .val (.int P4), .val (.int ((-2147483648 : Int32) + (P0 &&& (1073741823 : Int32)))), .val (.int ((-1073741824 : Int32) + (P1 &&& (1073741823 : Int32)))), .unset, .unset, .unset, .unset, .unset, .unset, .unset, .unset, .unset] [(.int P2)])) _
      refine X0.ldcInt hx hown (mvT hZ (hw _ (List.mem_of_getElem? (i := 1) rfl))) (g := (mkF m 19 #[.val (.int P0), .val (.int P1), .val (.int P2), .val (.int P3), .val (.int P4), .val (.int ((-2147483648 : Int32) + (P0 &&& (1073741823 : Int32)))), .val (.int ((-1073741824 : Int32) + (P1 &&& (1073741823 : Int32)))), .unset, .unset, .unset, .unset, .unset, .unset, .unset, .unset, .unset] [(.int P2)])) rfl (hb hby at_19) _ ?_
      show Steps p.tables e below (s₁.setTop (mkF m 21 #[.val (.int P0), .val (.int P1), .val (.int P2), .val (.int P3), .val (.int P4), .val (.int ((-2147483648 : Int32) + (P0 &&& (1073741823 : Int32)))), .val (.int ((-1073741824 : Int32) + (P1 &&& (1073741823 : Int32)))), .unset, .unset, .unset, .unset, .unset, .unset, .unset, .unset, .unset] [(.int (1073741823 : Int32)), (.int P2)])) _
      refine XS.iand X0.here hx rfl (hb hby at_21) rfl ?_
      show Steps p.tables e below (s₁.setTop (mkF m 22 #[.val (.int P0), .val (.int P1), .val (.int P2), .val (.int P3), .val (.int P4), .val (.int ((-2147483648 : Int32) + (P0 &&& (1073741823 : Int32)))), .val (.int ((-1073741824 : Int32) + (P1 &&& (1073741823 : Int32)))), .unset, .unset, .unset, .unset, .unset, .unset, .unset, .unset, .unset] [(.int (P2 &&& (1073741823 : Int32)))])) _
      refine XS.istore X0.here hx rfl (hb hby at_22) rfl (l' := #[.val (.int P0), .val (.int P1), .val (.int P2), .val (.int P3), .val (.int P4), .val (.int ((-2147483648 : Int32) + (P0 &&& (1073741823 : Int32)))), .val (.int ((-1073741824 : Int32) + (P1 &&& (1073741823 : Int32)))), .val (.int (P2 &&& (1073741823 : Int32))), .unset, .unset, .unset, .unset, .unset, .unset, .unset, .unset]) rfl ?_
      show Steps p.tables e below (s₁.setTop (mkF m 24 #[.val (.int P0), .val (.int P1), .val (.int P2), .val (.int P3), .val (.int P4), .val (.int ((-2147483648 : Int32) + (P0 &&& (1073741823 : Int32)))), .val (.int ((-1073741824 : Int32) + (P1 &&& (1073741823 : Int32)))), .val (.int (P2 &&& (1073741823 : Int32))), .unset, .unset, .unset, .unset, .unset, .unset, .unset, .unset] [])) _
      refine X0.ldcInt hx hown (mvT hZ (hw _ (List.mem_of_getElem? (i := 3) rfl))) (g := (mkF m 24 #[.val (.int P0), .val (.int P1), .val (.int P2), .val (.int P3), .val (.int P4), .val (.int ((-2147483648 : Int32) + (P0 &&& (1073741823 : Int32)))), .val (.int ((-1073741824 : Int32) + (P1 &&& (1073741823 : Int32)))), .val (.int (P2 &&& (1073741823 : Int32))), .unset, .unset, .unset, .unset, .unset, .unset, .unset, .unset] [])) rfl (hb hby at_24) _ ?_
      show Steps p.tables e below (s₁.setTop (mkF m 26 #[.val (.int P0), .val (.int P1), .val (.int P2), .val (.int P3), .val (.int P4), .val (.int ((-2147483648 : Int32) + (P0 &&& (1073741823 : Int32)))), .val (.int ((-1073741824 : Int32) + (P1 &&& (1073741823 : Int32)))), .val (.int (P2 &&& (1073741823 : Int32))), .unset, .unset, .unset, .unset, .unset, .unset, .unset, .unset] [(.int (1073741824 : Int32))])) _
      refine XS.iloadN X0.here hx rfl (hb hby at_26) rfl ?_
      show Steps p.tables e below (s₁.setTop (mkF m 27 #[.val (.int P0), .val (.int P1), .val (.int P2), .val (.int P3), .val (.int P4), .val (.int ((-2147483648 : Int32) + (P0 &&& (1073741823 : Int32)))), .val (.int ((-1073741824 : Int32) + (P1 &&& (1073741823 : Int32)))), .val (.int (P2 &&& (1073741823 : Int32))), .unset, .unset, .unset, .unset, .unset, .unset, .unset, .unset] [(.int P3), (.int (1073741824 : Int32))])) _
      refine X0.ldcInt hx hown (mvT hZ (hw _ (List.mem_of_getElem? (i := 1) rfl))) (g := (mkF m 27 #[.val (.int P0), .val (.int P1), .val (.int P2), .val (.int P3), .val (.int P4), .val (.int ((-2147483648 : Int32) + (P0 &&& (1073741823 : Int32)))), .val (.int ((-1073741824 : Int32) + (P1 &&& (1073741823 : Int32)))), .val (.int (P2 &&& (1073741823 : Int32))), .unset, .unset, .unset, .unset, .unset, .unset, .unset, .unset] [(.int P3), (.int (1073741824 : Int32))])) rfl (hb hby at_27) _ ?_
      show Steps p.tables e below (s₁.setTop (mkF m 29 #[.val (.int P0), .val (.int P1), .val (.int P2), .val (.int P3), .val (.int P4), .val (.int ((-2147483648 : Int32) + (P0 &&& (1073741823 : Int32)))), .val (.int ((-1073741824 : Int32) + (P1 &&& (1073741823 : Int32)))), .val (.int (P2 &&& (1073741823 : Int32))), .unset, .unset, .unset, .unset, .unset, .unset, .unset, .unset] [(.int (1073741823 : Int32)), (.int P3), (.int (1073741824 : Int32))])) _
      refine XS.iand X0.here hx rfl (hb hby at_29) rfl ?_
      show Steps p.tables e below (s₁.setTop (mkF m 30 #[.val (.int P0), .val (.int P1), .val (.int P2), .val (.int P3), .val (.int P4), .val (.int ((-2147483648 : Int32) + (P0 &&& (1073741823 : Int32)))), .val (.int ((-1073741824 : Int32) + (P1 &&& (1073741823 : Int32)))), .val (.int (P2 &&& (1073741823 : Int32))), .unset, .unset, .unset, .unset, .unset, .unset, .unset, .unset] [(.int (P3 &&& (1073741823 : Int32))), (.int (1073741824 : Int32))])) _
      refine XS.iadd X0.here hx rfl (hb hby at_30) rfl ?_
      show Steps p.tables e below (s₁.setTop (mkF m 31 #[.val (.int P0), .val (.int P1), .val (.int P2), .val (.int P3), .val (.int P4), .val (.int ((-2147483648 : Int32) + (P0 &&& (1073741823 : Int32)))), .val (.int ((-1073741824 : Int32) + (P1 &&& (1073741823 : Int32)))), .val (.int (P2 &&& (1073741823 : Int32))), .unset, .unset, .unset, .unset, .unset, .unset, .unset, .unset] [(.int ((1073741824 : Int32) + (P3 &&& (1073741823 : Int32))))])) _
      refine XS.istore X0.here hx rfl (hb hby at_31) rfl (l' := #[.val (.int P0), .val (.int P1), .val (.int P2), .val (.int P3), .val (.int P4), .val (.int ((-2147483648 : Int32) + (P0 &&& (1073741823 : Int32)))), .val (.int ((-1073741824 : Int32) + (P1 &&& (1073741823 : Int32)))), .val (.int (P2 &&& (1073741823 : Int32))), .val (.int ((1073741824 : Int32) + (P3 &&& (1073741823 : Int32)))), .unset, .unset, .unset, .unset, .unset, .unset, .unset]) rfl ?_
      show Steps p.tables e below (s₁.setTop (mkF m 33 #[.val (.int P0), .val (.int P1), .val (.int P2), .val (.int P3), .val (.int P4), .val (.int ((-2147483648 : Int32) + (P0 &&& (1073741823 : Int32)))), .val (.int ((-1073741824 : Int32) + (P1 &&& (1073741823 : Int32)))), .val (.int (P2 &&& (1073741823 : Int32))), .val (.int ((1073741824 : Int32) + (P3 &&& (1073741823 : Int32)))), .unset, .unset, .unset, .unset, .unset, .unset, .unset] [])) _
      refine XS.iload X0.here hx rfl (hb hby at_33) rfl ?_
      show Steps p.tables e below (s₁.setTop (mkF m 35 #[.val (.int P0), .val (.int P1), .val (.int P2), .val (.int P3), .val (.int P4), .val (.int ((-2147483648 : Int32) + (P0 &&& (1073741823 : Int32)))), .val (.int ((-1073741824 : Int32) + (P1 &&& (1073741823 : Int32)))), .val (.int (P2 &&& (1073741823 : Int32))), .val (.int ((1073741824 : Int32) + (P3 &&& (1073741823 : Int32)))), .unset, .unset, .unset, .unset, .unset, .unset, .unset] [(.int P4)])) _
      refine XS.bipush X0.here hx rfl (hb hby at_35) ?_
      show Steps p.tables e below (s₁.setTop (mkF m 37 #[.val (.int P0), .val (.int P1), .val (.int P2), .val (.int P3), .val (.int P4), .val (.int ((-2147483648 : Int32) + (P0 &&& (1073741823 : Int32)))), .val (.int ((-1073741824 : Int32) + (P1 &&& (1073741823 : Int32)))), .val (.int (P2 &&& (1073741823 : Int32))), .val (.int ((1073741824 : Int32) + (P3 &&& (1073741823 : Int32)))), .unset, .unset, .unset, .unset, .unset, .unset, .unset] [(.int (15 : Int32)), (.int P4)])) _
      refine XS.iand X0.here hx rfl (hb hby at_37) rfl ?_
      show Steps p.tables e below (s₁.setTop (mkF m 38 #[.val (.int P0), .val (.int P1), .val (.int P2), .val (.int P3), .val (.int P4), .val (.int ((-2147483648 : Int32) + (P0 &&& (1073741823 : Int32)))), .val (.int ((-1073741824 : Int32) + (P1 &&& (1073741823 : Int32)))), .val (.int (P2 &&& (1073741823 : Int32))), .val (.int ((1073741824 : Int32) + (P3 &&& (1073741823 : Int32)))), .unset, .unset, .unset, .unset, .unset, .unset, .unset] [(.int (P4 &&& (15 : Int32)))])) _
      refine XS.istore X0.here hx rfl (hb hby at_38) rfl (l' := #[.val (.int P0), .val (.int P1), .val (.int P2), .val (.int P3), .val (.int P4), .val (.int ((-2147483648 : Int32) + (P0 &&& (1073741823 : Int32)))), .val (.int ((-1073741824 : Int32) + (P1 &&& (1073741823 : Int32)))), .val (.int (P2 &&& (1073741823 : Int32))), .val (.int ((1073741824 : Int32) + (P3 &&& (1073741823 : Int32)))), .val (.int (P4 &&& (15 : Int32))), .unset, .unset, .unset, .unset, .unset, .unset]) rfl ?_
      show Steps p.tables e below (s₁.setTop (mkF m 40 #[.val (.int P0), .val (.int P1), .val (.int P2), .val (.int P3), .val (.int P4), .val (.int ((-2147483648 : Int32) + (P0 &&& (1073741823 : Int32)))), .val (.int ((-1073741824 : Int32) + (P1 &&& (1073741823 : Int32)))), .val (.int (P2 &&& (1073741823 : Int32))), .val (.int ((1073741824 : Int32) + (P3 &&& (1073741823 : Int32)))), .val (.int (P4 &&& (15 : Int32))), .unset, .unset, .unset, .unset, .unset, .unset] [])) _
      refine XS.iload X0.here hx rfl (hb hby at_40) rfl ?_
      show Steps p.tables e below (s₁.setTop (mkF m 42 #[.val (.int P0), .val (.int P1), .val (.int P2), .val (.int P3), .val (.int P4), .val (.int ((-2147483648 : Int32) + (P0 &&& (1073741823 : Int32)))), .val (.int ((-1073741824 : Int32) + (P1 &&& (1073741823 : Int32)))), .val (.int (P2 &&& (1073741823 : Int32))), .val (.int ((1073741824 : Int32) + (P3 &&& (1073741823 : Int32)))), .val (.int (P4 &&& (15 : Int32))), .unset, .unset, .unset, .unset, .unset, .unset] [(.int P4)])) _
      refine XS.iconst X0.here hx rfl (hb hby at_42) ?_
      show Steps p.tables e below (s₁.setTop (mkF m 43 #[.val (.int P0), .val (.int P1), .val (.int P2), .val (.int P3), .val (.int P4), .val (.int ((-2147483648 : Int32) + (P0 &&& (1073741823 : Int32)))), .val (.int ((-1073741824 : Int32) + (P1 &&& (1073741823 : Int32)))), .val (.int (P2 &&& (1073741823 : Int32))), .val (.int ((1073741824 : Int32) + (P3 &&& (1073741823 : Int32)))), .val (.int (P4 &&& (15 : Int32))), .unset, .unset, .unset, .unset, .unset, .unset] [(.int (4 : Int32)), (.int P4)])) _
      refine XS.iushr X0.here hx rfl (hb hby at_43) rfl ?_
      show Steps p.tables e below (s₁.setTop (mkF m 44 #[.val (.int P0), .val (.int P1), .val (.int P2), .val (.int P3), .val (.int P4), .val (.int ((-2147483648 : Int32) + (P0 &&& (1073741823 : Int32)))), .val (.int ((-1073741824 : Int32) + (P1 &&& (1073741823 : Int32)))), .val (.int (P2 &&& (1073741823 : Int32))), .val (.int ((1073741824 : Int32) + (P3 &&& (1073741823 : Int32)))), .val (.int (P4 &&& (15 : Int32))), .unset, .unset, .unset, .unset, .unset, .unset] [(.int ((P4.toUInt32 >>> ((4 : Int32) &&& 31).toUInt32).toInt32))])) _
      refine XS.bipush X0.here hx rfl (hb hby at_44) ?_
      show Steps p.tables e below (s₁.setTop (mkF m 46 #[.val (.int P0), .val (.int P1), .val (.int P2), .val (.int P3), .val (.int P4), .val (.int ((-2147483648 : Int32) + (P0 &&& (1073741823 : Int32)))), .val (.int ((-1073741824 : Int32) + (P1 &&& (1073741823 : Int32)))), .val (.int (P2 &&& (1073741823 : Int32))), .val (.int ((1073741824 : Int32) + (P3 &&& (1073741823 : Int32)))), .val (.int (P4 &&& (15 : Int32))), .unset, .unset, .unset, .unset, .unset, .unset] [(.int (15 : Int32)), (.int ((P4.toUInt32 >>> ((4 : Int32) &&& 31).toUInt32).toInt32))])) _
      refine XS.iand X0.here hx rfl (hb hby at_46) rfl ?_
      show Steps p.tables e below (s₁.setTop (mkF m 47 #[.val (.int P0), .val (.int P1), .val (.int P2), .val (.int P3), .val (.int P4), .val (.int ((-2147483648 : Int32) + (P0 &&& (1073741823 : Int32)))), .val (.int ((-1073741824 : Int32) + (P1 &&& (1073741823 : Int32)))), .val (.int (P2 &&& (1073741823 : Int32))), .val (.int ((1073741824 : Int32) + (P3 &&& (1073741823 : Int32)))), .val (.int (P4 &&& (15 : Int32))), .unset, .unset, .unset, .unset, .unset, .unset] [(.int (((P4.toUInt32 >>> ((4 : Int32) &&& 31).toUInt32).toInt32) &&& (15 : Int32)))])) _
      refine XS.istore X0.here hx rfl (hb hby at_47) rfl (l' := #[.val (.int P0), .val (.int P1), .val (.int P2), .val (.int P3), .val (.int P4), .val (.int ((-2147483648 : Int32) + (P0 &&& (1073741823 : Int32)))), .val (.int ((-1073741824 : Int32) + (P1 &&& (1073741823 : Int32)))), .val (.int (P2 &&& (1073741823 : Int32))), .val (.int ((1073741824 : Int32) + (P3 &&& (1073741823 : Int32)))), .val (.int (P4 &&& (15 : Int32))), .val (.int (((P4.toUInt32 >>> ((4 : Int32) &&& 31).toUInt32).toInt32) &&& (15 : Int32))), .unset, .unset, .unset, .unset, .unset]) rfl ?_
      show Steps p.tables e below (s₁.setTop (mkF m 49 #[.val (.int P0), .val (.int P1), .val (.int P2), .val (.int P3), .val (.int P4), .val (.int ((-2147483648 : Int32) + (P0 &&& (1073741823 : Int32)))), .val (.int ((-1073741824 : Int32) + (P1 &&& (1073741823 : Int32)))), .val (.int (P2 &&& (1073741823 : Int32))), .val (.int ((1073741824 : Int32) + (P3 &&& (1073741823 : Int32)))), .val (.int (P4 &&& (15 : Int32))), .val (.int (((P4.toUInt32 >>> ((4 : Int32) &&& 31).toUInt32).toInt32) &&& (15 : Int32))), .unset, .unset, .unset, .unset, .unset] [])) _
      refine XS.iload X0.here hx rfl (hb hby at_49) rfl ?_
      show Steps p.tables e below (s₁.setTop (mkF m 51 #[.val (.int P0), .val (.int P1), .val (.int P2), .val (.int P3), .val (.int P4), .val (.int ((-2147483648 : Int32) + (P0 &&& (1073741823 : Int32)))), .val (.int ((-1073741824 : Int32) + (P1 &&& (1073741823 : Int32)))), .val (.int (P2 &&& (1073741823 : Int32))), .val (.int ((1073741824 : Int32) + (P3 &&& (1073741823 : Int32)))), .val (.int (P4 &&& (15 : Int32))), .val (.int (((P4.toUInt32 >>> ((4 : Int32) &&& 31).toUInt32).toInt32) &&& (15 : Int32))), .unset, .unset, .unset, .unset, .unset] [(.int (P4 &&& (15 : Int32)))])) _
      refine XS.iload X0.here hx rfl (hb hby at_51) rfl ?_
      show Steps p.tables e below (s₁.setTop (mkF m 53 #[.val (.int P0), .val (.int P1), .val (.int P2), .val (.int P3), .val (.int P4), .val (.int ((-2147483648 : Int32) + (P0 &&& (1073741823 : Int32)))), .val (.int ((-1073741824 : Int32) + (P1 &&& (1073741823 : Int32)))), .val (.int (P2 &&& (1073741823 : Int32))), .val (.int ((1073741824 : Int32) + (P3 &&& (1073741823 : Int32)))), .val (.int (P4 &&& (15 : Int32))), .val (.int (((P4.toUInt32 >>> ((4 : Int32) &&& 31).toUInt32).toInt32) &&& (15 : Int32))), .unset, .unset, .unset, .unset, .unset] [(.int ((-2147483648 : Int32) + (P0 &&& (1073741823 : Int32)))), (.int (P4 &&& (15 : Int32)))])) _
      refine XS.iload X0.here hx rfl (hb hby at_53) rfl ?_
      show Steps p.tables e below (s₁.setTop (mkF m 55 #[.val (.int P0), .val (.int P1), .val (.int P2), .val (.int P3), .val (.int P4), .val (.int ((-2147483648 : Int32) + (P0 &&& (1073741823 : Int32)))), .val (.int ((-1073741824 : Int32) + (P1 &&& (1073741823 : Int32)))), .val (.int (P2 &&& (1073741823 : Int32))), .val (.int ((1073741824 : Int32) + (P3 &&& (1073741823 : Int32)))), .val (.int (P4 &&& (15 : Int32))), .val (.int (((P4.toUInt32 >>> ((4 : Int32) &&& 31).toUInt32).toInt32) &&& (15 : Int32))), .unset, .unset, .unset, .unset, .unset] [(.int ((-1073741824 : Int32) + (P1 &&& (1073741823 : Int32)))), (.int ((-2147483648 : Int32) + (P0 &&& (1073741823 : Int32)))), (.int (P4 &&& (15 : Int32)))])) _
      refine XS.iload X0.here hx rfl (hb hby at_55) rfl ?_
      show Steps p.tables e below (s₁.setTop (mkF m 57 #[.val (.int P0), .val (.int P1), .val (.int P2), .val (.int P3), .val (.int P4), .val (.int ((-2147483648 : Int32) + (P0 &&& (1073741823 : Int32)))), .val (.int ((-1073741824 : Int32) + (P1 &&& (1073741823 : Int32)))), .val (.int (P2 &&& (1073741823 : Int32))), .val (.int ((1073741824 : Int32) + (P3 &&& (1073741823 : Int32)))), .val (.int (P4 &&& (15 : Int32))), .val (.int (((P4.toUInt32 >>> ((4 : Int32) &&& 31).toUInt32).toInt32) &&& (15 : Int32))), .unset, .unset, .unset, .unset, .unset] [(.int (P2 &&& (1073741823 : Int32))), (.int ((-1073741824 : Int32) + (P1 &&& (1073741823 : Int32)))), (.int ((-2147483648 : Int32) + (P0 &&& (1073741823 : Int32)))), (.int (P4 &&& (15 : Int32)))])) _
      refine XS.iload X0.here hx rfl (hb hby at_57) rfl ?_
      show Steps p.tables e below (s₁.setTop (mkF m 59 #[.val (.int P0), .val (.int P1), .val (.int P2), .val (.int P3), .val (.int P4), .val (.int ((-2147483648 : Int32) + (P0 &&& (1073741823 : Int32)))), .val (.int ((-1073741824 : Int32) + (P1 &&& (1073741823 : Int32)))), .val (.int (P2 &&& (1073741823 : Int32))), .val (.int ((1073741824 : Int32) + (P3 &&& (1073741823 : Int32)))), .val (.int (P4 &&& (15 : Int32))), .val (.int (((P4.toUInt32 >>> ((4 : Int32) &&& 31).toUInt32).toInt32) &&& (15 : Int32))), .unset, .unset, .unset, .unset, .unset] [(.int ((1073741824 : Int32) + (P3 &&& (1073741823 : Int32)))), (.int (P2 &&& (1073741823 : Int32))), (.int ((-1073741824 : Int32) + (P1 &&& (1073741823 : Int32)))), (.int ((-2147483648 : Int32) + (P0 &&& (1073741823 : Int32)))), (.int (P4 &&& (15 : Int32)))])) _
      refine st101 _ ?_
      show Steps p.tables e below (T101.setTop (mkF m 62 #[.val (.int P0), .val (.int P1), .val (.int P2), .val (.int P3), .val (.int P4), .val (.int ((-2147483648 : Int32) + (P0 &&& (1073741823 : Int32)))), .val (.int ((-1073741824 : Int32) + (P1 &&& (1073741823 : Int32)))), .val (.int (P2 &&& (1073741823 : Int32))), .val (.int ((1073741824 : Int32) + (P3 &&& (1073741823 : Int32)))), .val (.int (P4 &&& (15 : Int32))), .val (.int (((P4.toUInt32 >>> ((4 : Int32) &&& 31).toUInt32).toInt32) &&& (15 : Int32))), .unset, .unset, .unset, .unset, .unset] [(.ref x101_R0)])) _
      refine XS.astore X101.here hx rfl (hb hby at_62) rfl rfl (l' := #[.val (.int P0), .val (.int P1), .val (.int P2), .val (.int P3), .val (.int P4), .val (.int ((-2147483648 : Int32) + (P0 &&& (1073741823 : Int32)))), .val (.int ((-1073741824 : Int32) + (P1 &&& (1073741823 : Int32)))), .val (.int (P2 &&& (1073741823 : Int32))), .val (.int ((1073741824 : Int32) + (P3 &&& (1073741823 : Int32)))), .val (.int (P4 &&& (15 : Int32))), .val (.int (((P4.toUInt32 >>> ((4 : Int32) &&& 31).toUInt32).toInt32) &&& (15 : Int32))), .val (.ref x101_R0), .unset, .unset, .unset, .unset]) rfl ?_
      show Steps p.tables e below (T101.setTop (mkF m 64 #[.val (.int P0), .val (.int P1), .val (.int P2), .val (.int P3), .val (.int P4), .val (.int ((-2147483648 : Int32) + (P0 &&& (1073741823 : Int32)))), .val (.int ((-1073741824 : Int32) + (P1 &&& (1073741823 : Int32)))), .val (.int (P2 &&& (1073741823 : Int32))), .val (.int ((1073741824 : Int32) + (P3 &&& (1073741823 : Int32)))), .val (.int (P4 &&& (15 : Int32))), .val (.int (((P4.toUInt32 >>> ((4 : Int32) &&& 31).toUInt32).toInt32) &&& (15 : Int32))), .val (.ref x101_R0), .unset, .unset, .unset, .unset] [])) _
      refine XS.iload X101.here hx rfl (hb hby at_64) rfl ?_
      show Steps p.tables e below (T101.setTop (mkF m 66 #[.val (.int P0), .val (.int P1), .val (.int P2), .val (.int P3), .val (.int P4), .val (.int ((-2147483648 : Int32) + (P0 &&& (1073741823 : Int32)))), .val (.int ((-1073741824 : Int32) + (P1 &&& (1073741823 : Int32)))), .val (.int (P2 &&& (1073741823 : Int32))), .val (.int ((1073741824 : Int32) + (P3 &&& (1073741823 : Int32)))), .val (.int (P4 &&& (15 : Int32))), .val (.int (((P4.toUInt32 >>> ((4 : Int32) &&& 31).toUInt32).toInt32) &&& (15 : Int32))), .val (.ref x101_R0), .unset, .unset, .unset, .unset] [(.int (((P4.toUInt32 >>> ((4 : Int32) &&& 31).toUInt32).toInt32) &&& (15 : Int32)))])) _
      refine XS.iload X101.here hx rfl (hb hby at_66) rfl ?_
      show Steps p.tables e below (T101.setTop (mkF m 68 #[.val (.int P0), .val (.int P1), .val (.int P2), .val (.int P3), .val (.int P4), .val (.int ((-2147483648 : Int32) + (P0 &&& (1073741823 : Int32)))), .val (.int ((-1073741824 : Int32) + (P1 &&& (1073741823 : Int32)))), .val (.int (P2 &&& (1073741823 : Int32))), .val (.int ((1073741824 : Int32) + (P3 &&& (1073741823 : Int32)))), .val (.int (P4 &&& (15 : Int32))), .val (.int (((P4.toUInt32 >>> ((4 : Int32) &&& 31).toUInt32).toInt32) &&& (15 : Int32))), .val (.ref x101_R0), .unset, .unset, .unset, .unset] [(.int ((-2147483648 : Int32) + (P0 &&& (1073741823 : Int32)))), (.int (((P4.toUInt32 >>> ((4 : Int32) &&& 31).toUInt32).toInt32) &&& (15 : Int32)))])) _
      refine XS.iload X101.here hx rfl (hb hby at_68) rfl ?_
      show Steps p.tables e below (T101.setTop (mkF m 70 #[.val (.int P0), .val (.int P1), .val (.int P2), .val (.int P3), .val (.int P4), .val (.int ((-2147483648 : Int32) + (P0 &&& (1073741823 : Int32)))), .val (.int ((-1073741824 : Int32) + (P1 &&& (1073741823 : Int32)))), .val (.int (P2 &&& (1073741823 : Int32))), .val (.int ((1073741824 : Int32) + (P3 &&& (1073741823 : Int32)))), .val (.int (P4 &&& (15 : Int32))), .val (.int (((P4.toUInt32 >>> ((4 : Int32) &&& 31).toUInt32).toInt32) &&& (15 : Int32))), .val (.ref x101_R0), .unset, .unset, .unset, .unset] [(.int ((-1073741824 : Int32) + (P1 &&& (1073741823 : Int32)))), (.int ((-2147483648 : Int32) + (P0 &&& (1073741823 : Int32)))), (.int (((P4.toUInt32 >>> ((4 : Int32) &&& 31).toUInt32).toInt32) &&& (15 : Int32)))])) _
      refine XS.iload X101.here hx rfl (hb hby at_70) rfl ?_
      show Steps p.tables e below (T101.setTop (mkF m 72 #[.val (.int P0), .val (.int P1), .val (.int P2), .val (.int P3), .val (.int P4), .val (.int ((-2147483648 : Int32) + (P0 &&& (1073741823 : Int32)))), .val (.int ((-1073741824 : Int32) + (P1 &&& (1073741823 : Int32)))), .val (.int (P2 &&& (1073741823 : Int32))), .val (.int ((1073741824 : Int32) + (P3 &&& (1073741823 : Int32)))), .val (.int (P4 &&& (15 : Int32))), .val (.int (((P4.toUInt32 >>> ((4 : Int32) &&& 31).toUInt32).toInt32) &&& (15 : Int32))), .val (.ref x101_R0), .unset, .unset, .unset, .unset] [(.int (P2 &&& (1073741823 : Int32))), (.int ((-1073741824 : Int32) + (P1 &&& (1073741823 : Int32)))), (.int ((-2147483648 : Int32) + (P0 &&& (1073741823 : Int32)))), (.int (((P4.toUInt32 >>> ((4 : Int32) &&& 31).toUInt32).toInt32) &&& (15 : Int32)))])) _
      refine XS.iload X101.here hx rfl (hb hby at_72) rfl ?_
      show Steps p.tables e below (T101.setTop (mkF m 74 #[.val (.int P0), .val (.int P1), .val (.int P2), .val (.int P3), .val (.int P4), .val (.int ((-2147483648 : Int32) + (P0 &&& (1073741823 : Int32)))), .val (.int ((-1073741824 : Int32) + (P1 &&& (1073741823 : Int32)))), .val (.int (P2 &&& (1073741823 : Int32))), .val (.int ((1073741824 : Int32) + (P3 &&& (1073741823 : Int32)))), .val (.int (P4 &&& (15 : Int32))), .val (.int (((P4.toUInt32 >>> ((4 : Int32) &&& 31).toUInt32).toInt32) &&& (15 : Int32))), .val (.ref x101_R0), .unset, .unset, .unset, .unset] [(.int ((1073741824 : Int32) + (P3 &&& (1073741823 : Int32)))), (.int (P2 &&& (1073741823 : Int32))), (.int ((-1073741824 : Int32) + (P1 &&& (1073741823 : Int32)))), (.int ((-2147483648 : Int32) + (P0 &&& (1073741823 : Int32)))), (.int (((P4.toUInt32 >>> ((4 : Int32) &&& 31).toUInt32).toInt32) &&& (15 : Int32)))])) _
      refine st103 _ ?_
      show Steps p.tables e below (T103.setTop (mkF m 77 #[.val (.int P0), .val (.int P1), .val (.int P2), .val (.int P3), .val (.int P4), .val (.int ((-2147483648 : Int32) + (P0 &&& (1073741823 : Int32)))), .val (.int ((-1073741824 : Int32) + (P1 &&& (1073741823 : Int32)))), .val (.int (P2 &&& (1073741823 : Int32))), .val (.int ((1073741824 : Int32) + (P3 &&& (1073741823 : Int32)))), .val (.int (P4 &&& (15 : Int32))), .val (.int (((P4.toUInt32 >>> ((4 : Int32) &&& 31).toUInt32).toInt32) &&& (15 : Int32))), .val (.ref x101_R0), .unset, .unset, .unset, .unset] [(.ref x103_R0)])) _
      refine XS.astore X103.here hx rfl (hb hby at_77) rfl rfl (l' := #[.val (.int P0), .val (.int P1), .val (.int P2), .val (.int P3), .val (.int P4), .val (.int ((-2147483648 : Int32) + (P0 &&& (1073741823 : Int32)))), .val (.int ((-1073741824 : Int32) + (P1 &&& (1073741823 : Int32)))), .val (.int (P2 &&& (1073741823 : Int32))), .val (.int ((1073741824 : Int32) + (P3 &&& (1073741823 : Int32)))), .val (.int (P4 &&& (15 : Int32))), .val (.int (((P4.toUInt32 >>> ((4 : Int32) &&& 31).toUInt32).toInt32) &&& (15 : Int32))), .val (.ref x101_R0), .val (.ref x103_R0), .unset, .unset, .unset]) rfl ?_
      show Steps p.tables e below (T103.setTop (mkF m 79 #[.val (.int P0), .val (.int P1), .val (.int P2), .val (.int P3), .val (.int P4), .val (.int ((-2147483648 : Int32) + (P0 &&& (1073741823 : Int32)))), .val (.int ((-1073741824 : Int32) + (P1 &&& (1073741823 : Int32)))), .val (.int (P2 &&& (1073741823 : Int32))), .val (.int ((1073741824 : Int32) + (P3 &&& (1073741823 : Int32)))), .val (.int (P4 &&& (15 : Int32))), .val (.int (((P4.toUInt32 >>> ((4 : Int32) &&& 31).toUInt32).toInt32) &&& (15 : Int32))), .val (.ref x101_R0), .val (.ref x103_R0), .unset, .unset, .unset] [])) _
      refine st106 _ ?_
      show Steps p.tables e below (T106.setTop (mkF m 82 #[.val (.int P0), .val (.int P1), .val (.int P2), .val (.int P3), .val (.int P4), .val (.int ((-2147483648 : Int32) + (P0 &&& (1073741823 : Int32)))), .val (.int ((-1073741824 : Int32) + (P1 &&& (1073741823 : Int32)))), .val (.int (P2 &&& (1073741823 : Int32))), .val (.int ((1073741824 : Int32) + (P3 &&& (1073741823 : Int32)))), .val (.int (P4 &&& (15 : Int32))), .val (.int (((P4.toUInt32 >>> ((4 : Int32) &&& 31).toUInt32).toInt32) &&& (15 : Int32))), .val (.ref x101_R0), .val (.ref x103_R0), .unset, .unset, .unset] [(.ref b106)])) _
      refine XS.dup X106.here hx rfl (hb hby at_82) rfl rfl ?_
      show Steps p.tables e below (T106.setTop (mkF m 83 #[.val (.int P0), .val (.int P1), .val (.int P2), .val (.int P3), .val (.int P4), .val (.int ((-2147483648 : Int32) + (P0 &&& (1073741823 : Int32)))), .val (.int ((-1073741824 : Int32) + (P1 &&& (1073741823 : Int32)))), .val (.int (P2 &&& (1073741823 : Int32))), .val (.int ((1073741824 : Int32) + (P3 &&& (1073741823 : Int32)))), .val (.int (P4 &&& (15 : Int32))), .val (.int (((P4.toUInt32 >>> ((4 : Int32) &&& 31).toUInt32).toInt32) &&& (15 : Int32))), .val (.ref x101_R0), .val (.ref x103_R0), .unset, .unset, .unset] [(.ref b106), (.ref b106)])) _
      refine XS.aload X106.here hx rfl (hb hby at_83) rfl rfl ?_
      show Steps p.tables e below (T106.setTop (mkF m 85 #[.val (.int P0), .val (.int P1), .val (.int P2), .val (.int P3), .val (.int P4), .val (.int ((-2147483648 : Int32) + (P0 &&& (1073741823 : Int32)))), .val (.int ((-1073741824 : Int32) + (P1 &&& (1073741823 : Int32)))), .val (.int (P2 &&& (1073741823 : Int32))), .val (.int ((1073741824 : Int32) + (P3 &&& (1073741823 : Int32)))), .val (.int (P4 &&& (15 : Int32))), .val (.int (((P4.toUInt32 >>> ((4 : Int32) &&& 31).toUInt32).toInt32) &&& (15 : Int32))), .val (.ref x101_R0), .val (.ref x103_R0), .unset, .unset, .unset] [(.ref x101_R0), (.ref b106), (.ref b106)])) _
      refine st113.trans ?_
      show Steps p.tables e below (T113.setTop (mkF m 88 #[.val (.int P0), .val (.int P1), .val (.int P2), .val (.int P3), .val (.int P4), .val (.int ((-2147483648 : Int32) + (P0 &&& (1073741823 : Int32)))), .val (.int ((-1073741824 : Int32) + (P1 &&& (1073741823 : Int32)))), .val (.int (P2 &&& (1073741823 : Int32))), .val (.int ((1073741824 : Int32) + (P3 &&& (1073741823 : Int32)))), .val (.int (P4 &&& (15 : Int32))), .val (.int (((P4.toUInt32 >>> ((4 : Int32) &&& 31).toUInt32).toInt32) &&& (15 : Int32))), .val (.ref x101_R0), .val (.ref x103_R0), .unset, .unset, .unset] [(.ref b106)])) _
      refine XS.astore X113.here hx rfl (hb hby at_88) rfl rfl (l' := #[.val (.int P0), .val (.int P1), .val (.int P2), .val (.int P3), .val (.int P4), .val (.int ((-2147483648 : Int32) + (P0 &&& (1073741823 : Int32)))), .val (.int ((-1073741824 : Int32) + (P1 &&& (1073741823 : Int32)))), .val (.int (P2 &&& (1073741823 : Int32))), .val (.int ((1073741824 : Int32) + (P3 &&& (1073741823 : Int32)))), .val (.int (P4 &&& (15 : Int32))), .val (.int (((P4.toUInt32 >>> ((4 : Int32) &&& 31).toUInt32).toInt32) &&& (15 : Int32))), .val (.ref x101_R0), .val (.ref x103_R0), .val (.ref b106), .unset, .unset]) rfl ?_
      show Steps p.tables e below (T113.setTop (mkF m 90 #[.val (.int P0), .val (.int P1), .val (.int P2), .val (.int P3), .val (.int P4), .val (.int ((-2147483648 : Int32) + (P0 &&& (1073741823 : Int32)))), .val (.int ((-1073741824 : Int32) + (P1 &&& (1073741823 : Int32)))), .val (.int (P2 &&& (1073741823 : Int32))), .val (.int ((1073741824 : Int32) + (P3 &&& (1073741823 : Int32)))), .val (.int (P4 &&& (15 : Int32))), .val (.int (((P4.toUInt32 >>> ((4 : Int32) &&& 31).toUInt32).toInt32) &&& (15 : Int32))), .val (.ref x101_R0), .val (.ref x103_R0), .val (.ref b106), .unset, .unset] [])) _
      refine st115 _ ?_
      show Steps p.tables e below (T115.setTop (mkF m 93 #[.val (.int P0), .val (.int P1), .val (.int P2), .val (.int P3), .val (.int P4), .val (.int ((-2147483648 : Int32) + (P0 &&& (1073741823 : Int32)))), .val (.int ((-1073741824 : Int32) + (P1 &&& (1073741823 : Int32)))), .val (.int (P2 &&& (1073741823 : Int32))), .val (.int ((1073741824 : Int32) + (P3 &&& (1073741823 : Int32)))), .val (.int (P4 &&& (15 : Int32))), .val (.int (((P4.toUInt32 >>> ((4 : Int32) &&& 31).toUInt32).toInt32) &&& (15 : Int32))), .val (.ref x101_R0), .val (.ref x103_R0), .val (.ref b106), .unset, .unset] [(.ref b115)])) _
      refine XS.dup X115.here hx rfl (hb hby at_93) rfl rfl ?_
      show Steps p.tables e below (T115.setTop (mkF m 94 #[.val (.int P0), .val (.int P1), .val (.int P2), .val (.int P3), .val (.int P4), .val (.int ((-2147483648 : Int32) + (P0 &&& (1073741823 : Int32)))), .val (.int ((-1073741824 : Int32) + (P1 &&& (1073741823 : Int32)))), .val (.int (P2 &&& (1073741823 : Int32))), .val (.int ((1073741824 : Int32) + (P3 &&& (1073741823 : Int32)))), .val (.int (P4 &&& (15 : Int32))), .val (.int (((P4.toUInt32 >>> ((4 : Int32) &&& 31).toUInt32).toInt32) &&& (15 : Int32))), .val (.ref x101_R0), .val (.ref x103_R0), .val (.ref b106), .unset, .unset] [(.ref b115), (.ref b115)])) _
      refine XS.aload X115.here hx rfl (hb hby at_94) rfl rfl ?_
      show Steps p.tables e below (T115.setTop (mkF m 96 #[.val (.int P0), .val (.int P1), .val (.int P2), .val (.int P3), .val (.int P4), .val (.int ((-2147483648 : Int32) + (P0 &&& (1073741823 : Int32)))), .val (.int ((-1073741824 : Int32) + (P1 &&& (1073741823 : Int32)))), .val (.int (P2 &&& (1073741823 : Int32))), .val (.int ((1073741824 : Int32) + (P3 &&& (1073741823 : Int32)))), .val (.int (P4 &&& (15 : Int32))), .val (.int (((P4.toUInt32 >>> ((4 : Int32) &&& 31).toUInt32).toInt32) &&& (15 : Int32))), .val (.ref x101_R0), .val (.ref x103_R0), .val (.ref b106), .unset, .unset] [(.ref x103_R0), (.ref b115), (.ref b115)])) _
      refine st124.trans ?_
      show Steps p.tables e below (T124.setTop (mkF m 99 #[.val (.int P0), .val (.int P1), .val (.int P2), .val (.int P3), .val (.int P4), .val (.int ((-2147483648 : Int32) + (P0 &&& (1073741823 : Int32)))), .val (.int ((-1073741824 : Int32) + (P1 &&& (1073741823 : Int32)))), .val (.int (P2 &&& (1073741823 : Int32))), .val (.int ((1073741824 : Int32) + (P3 &&& (1073741823 : Int32)))), .val (.int (P4 &&& (15 : Int32))), .val (.int (((P4.toUInt32 >>> ((4 : Int32) &&& 31).toUInt32).toInt32) &&& (15 : Int32))), .val (.ref x101_R0), .val (.ref x103_R0), .val (.ref b106), .unset, .unset] [(.ref b115)])) _
      refine XS.astore X124.here hx rfl (hb hby at_99) rfl rfl (l' := #[.val (.int P0), .val (.int P1), .val (.int P2), .val (.int P3), .val (.int P4), .val (.int ((-2147483648 : Int32) + (P0 &&& (1073741823 : Int32)))), .val (.int ((-1073741824 : Int32) + (P1 &&& (1073741823 : Int32)))), .val (.int (P2 &&& (1073741823 : Int32))), .val (.int ((1073741824 : Int32) + (P3 &&& (1073741823 : Int32)))), .val (.int (P4 &&& (15 : Int32))), .val (.int (((P4.toUInt32 >>> ((4 : Int32) &&& 31).toUInt32).toInt32) &&& (15 : Int32))), .val (.ref x101_R0), .val (.ref x103_R0), .val (.ref b106), .val (.ref b115), .unset]) rfl ?_
      show Steps p.tables e below (T124.setTop (mkF m 101 #[.val (.int P0), .val (.int P1), .val (.int P2), .val (.int P3), .val (.int P4), .val (.int ((-2147483648 : Int32) + (P0 &&& (1073741823 : Int32)))), .val (.int ((-1073741824 : Int32) + (P1 &&& (1073741823 : Int32)))), .val (.int (P2 &&& (1073741823 : Int32))), .val (.int ((1073741824 : Int32) + (P3 &&& (1073741823 : Int32)))), .val (.int (P4 &&& (15 : Int32))), .val (.int (((P4.toUInt32 >>> ((4 : Int32) &&& 31).toUInt32).toInt32) &&& (15 : Int32))), .val (.ref x101_R0), .val (.ref x103_R0), .val (.ref b106), .val (.ref b115), .unset] [])) _
      refine XS.iload X124.here hx rfl (hb hby at_101) rfl ?_
      show Steps p.tables e below (T124.setTop (mkF m 103 #[.val (.int P0), .val (.int P1), .val (.int P2), .val (.int P3), .val (.int P4), .val (.int ((-2147483648 : Int32) + (P0 &&& (1073741823 : Int32)))), .val (.int ((-1073741824 : Int32) + (P1 &&& (1073741823 : Int32)))), .val (.int (P2 &&& (1073741823 : Int32))), .val (.int ((1073741824 : Int32) + (P3 &&& (1073741823 : Int32)))), .val (.int (P4 &&& (15 : Int32))), .val (.int (((P4.toUInt32 >>> ((4 : Int32) &&& 31).toUInt32).toInt32) &&& (15 : Int32))), .val (.ref x101_R0), .val (.ref x103_R0), .val (.ref b106), .val (.ref b115), .unset] [(.int (((P4.toUInt32 >>> ((4 : Int32) &&& 31).toUInt32).toInt32) &&& (15 : Int32)))])) _
      refine XS.iload X124.here hx rfl (hb hby at_103) rfl ?_
      show Steps p.tables e below (T124.setTop (mkF m 105 #[.val (.int P0), .val (.int P1), .val (.int P2), .val (.int P3), .val (.int P4), .val (.int ((-2147483648 : Int32) + (P0 &&& (1073741823 : Int32)))), .val (.int ((-1073741824 : Int32) + (P1 &&& (1073741823 : Int32)))), .val (.int (P2 &&& (1073741823 : Int32))), .val (.int ((1073741824 : Int32) + (P3 &&& (1073741823 : Int32)))), .val (.int (P4 &&& (15 : Int32))), .val (.int (((P4.toUInt32 >>> ((4 : Int32) &&& 31).toUInt32).toInt32) &&& (15 : Int32))), .val (.ref x101_R0), .val (.ref x103_R0), .val (.ref b106), .val (.ref b115), .unset] [(.int (P4 &&& (15 : Int32))), (.int (((P4.toUInt32 >>> ((4 : Int32) &&& 31).toUInt32).toInt32) &&& (15 : Int32)))])) _
      refine XS.iconst X124.here hx rfl (hb hby at_105) ?_
      show Steps p.tables e below (T124.setTop (mkF m 106 #[.val (.int P0), .val (.int P1), .val (.int P2), .val (.int P3), .val (.int P4), .val (.int ((-2147483648 : Int32) + (P0 &&& (1073741823 : Int32)))), .val (.int ((-1073741824 : Int32) + (P1 &&& (1073741823 : Int32)))), .val (.int (P2 &&& (1073741823 : Int32))), .val (.int ((1073741824 : Int32) + (P3 &&& (1073741823 : Int32)))), .val (.int (P4 &&& (15 : Int32))), .val (.int (((P4.toUInt32 >>> ((4 : Int32) &&& 31).toUInt32).toInt32) &&& (15 : Int32))), .val (.ref x101_R0), .val (.ref x103_R0), .val (.ref b106), .val (.ref b115), .unset] [(.int (-1 : Int32)), (.int (P4 &&& (15 : Int32))), (.int (((P4.toUInt32 >>> ((4 : Int32) &&& 31).toUInt32).toInt32) &&& (15 : Int32)))])) _
      refine XS.ixor X124.here hx rfl (hb hby at_106) rfl ?_
      show Steps p.tables e below (T124.setTop (mkF m 107 #[.val (.int P0), .val (.int P1), .val (.int P2), .val (.int P3), .val (.int P4), .val (.int ((-2147483648 : Int32) + (P0 &&& (1073741823 : Int32)))), .val (.int ((-1073741824 : Int32) + (P1 &&& (1073741823 : Int32)))), .val (.int (P2 &&& (1073741823 : Int32))), .val (.int ((1073741824 : Int32) + (P3 &&& (1073741823 : Int32)))), .val (.int (P4 &&& (15 : Int32))), .val (.int (((P4.toUInt32 >>> ((4 : Int32) &&& 31).toUInt32).toInt32) &&& (15 : Int32))), .val (.ref x101_R0), .val (.ref x103_R0), .val (.ref b106), .val (.ref b115), .unset] [(.int ((P4 &&& (15 : Int32)) ^^^ (-1 : Int32))), (.int (((P4.toUInt32 >>> ((4 : Int32) &&& 31).toUInt32).toInt32) &&& (15 : Int32)))])) _
      refine XS.iand X124.here hx rfl (hb hby at_107) rfl ?_
      show Steps p.tables e below (T124.setTop (mkF m 108 #[.val (.int P0), .val (.int P1), .val (.int P2), .val (.int P3), .val (.int P4), .val (.int ((-2147483648 : Int32) + (P0 &&& (1073741823 : Int32)))), .val (.int ((-1073741824 : Int32) + (P1 &&& (1073741823 : Int32)))), .val (.int (P2 &&& (1073741823 : Int32))), .val (.int ((1073741824 : Int32) + (P3 &&& (1073741823 : Int32)))), .val (.int (P4 &&& (15 : Int32))), .val (.int (((P4.toUInt32 >>> ((4 : Int32) &&& 31).toUInt32).toInt32) &&& (15 : Int32))), .val (.ref x101_R0), .val (.ref x103_R0), .val (.ref b106), .val (.ref b115), .unset] [(.int ((((P4.toUInt32 >>> ((4 : Int32) &&& 31).toUInt32).toInt32) &&& (15 : Int32)) &&& ((P4 &&& (15 : Int32)) ^^^ (-1 : Int32))))])) _
      by_cases hm108 : ((((P4.toUInt32 >>> ((4 : Int32) &&& 31).toUInt32).toInt32) &&& (15 : Int32)) &&& ((P4 &&& (15 : Int32)) ^^^ (-1 : Int32))) = (0 : Int32)
      · refine XS.ifNo X124.here hx rfl (hb hby at_108) rfl ((if0 _ _).trans (teq hm108).2) ?_
        show Steps p.tables e below (T124.setTop (mkF m 111 #[.val (.int P0), .val (.int P1), .val (.int P2), .val (.int P3), .val (.int P4), .val (.int ((-2147483648 : Int32) + (P0 &&& (1073741823 : Int32)))), .val (.int ((-1073741824 : Int32) + (P1 &&& (1073741823 : Int32)))), .val (.int (P2 &&& (1073741823 : Int32))), .val (.int ((1073741824 : Int32) + (P3 &&& (1073741823 : Int32)))), .val (.int (P4 &&& (15 : Int32))), .val (.int (((P4.toUInt32 >>> ((4 : Int32) &&& 31).toUInt32).toInt32) &&& (15 : Int32))), .val (.ref x101_R0), .val (.ref x103_R0), .val (.ref b106), .val (.ref b115), .unset] [])) _
        refine XS.iconst X124.here hx rfl (hb hby at_111) ?_
        show Steps p.tables e below (T124.setTop (mkF m 112 #[.val (.int P0), .val (.int P1), .val (.int P2), .val (.int P3), .val (.int P4), .val (.int ((-2147483648 : Int32) + (P0 &&& (1073741823 : Int32)))), .val (.int ((-1073741824 : Int32) + (P1 &&& (1073741823 : Int32)))), .val (.int (P2 &&& (1073741823 : Int32))), .val (.int ((1073741824 : Int32) + (P3 &&& (1073741823 : Int32)))), .val (.int (P4 &&& (15 : Int32))), .val (.int (((P4.toUInt32 >>> ((4 : Int32) &&& 31).toUInt32).toInt32) &&& (15 : Int32))), .val (.ref x101_R0), .val (.ref x103_R0), .val (.ref b106), .val (.ref b115), .unset] [(.int (1 : Int32))])) _
        refine XS.goto X124.here hx rfl (pc0 := 112) (pc' := 116) rfl (hb hby at_112) (by decide) (by decide) ?_
        rw [show (if ((((P4.toUInt32 >>> ((4 : Int32) &&& 31).toUInt32).toInt32) &&& (15 : Int32)) &&& ((P4 &&& (15 : Int32)) ^^^ (-1 : Int32))) = (0 : Int32) then (1 : Int32) else (0 : Int32)) = (1 : Int32) from by first | exact if_pos hm108 | exact if_neg hm108 | exact if_neg (fun q => q hm108) | simp [hm108]] at kt
        exact kt
      · refine XS.ifYes X124.here hx rfl (pc0 := 108) (pc' := 115) rfl (hb hby at_108) rfl ((if0 _ _).trans (feq hm108).2) (by decide) (by decide) ?_
        show Steps p.tables e below (T124.setTop (mkF m 115 #[.val (.int P0), .val (.int P1), .val (.int P2), .val (.int P3), .val (.int P4), .val (.int ((-2147483648 : Int32) + (P0 &&& (1073741823 : Int32)))), .val (.int ((-1073741824 : Int32) + (P1 &&& (1073741823 : Int32)))), .val (.int (P2 &&& (1073741823 : Int32))), .val (.int ((1073741824 : Int32) + (P3 &&& (1073741823 : Int32)))), .val (.int (P4 &&& (15 : Int32))), .val (.int (((P4.toUInt32 >>> ((4 : Int32) &&& 31).toUInt32).toInt32) &&& (15 : Int32))), .val (.ref x101_R0), .val (.ref x103_R0), .val (.ref b106), .val (.ref b115), .unset] [])) _
        refine XS.iconst X124.here hx rfl (hb hby at_115) ?_
        rw [show (if ((((P4.toUInt32 >>> ((4 : Int32) &&& 31).toUInt32).toInt32) &&& (15 : Int32)) &&& ((P4 &&& (15 : Int32)) ^^^ (-1 : Int32))) = (0 : Int32) then (1 : Int32) else (0 : Int32)) = (0 : Int32) from by first | exact if_pos hm108 | exact if_neg hm108 | exact if_neg (fun q => q hm108) | simp [hm108]] at kt
        exact kt)
  have c127 : Fld Z T124.heap b106 "com/example/postil/postil/domain/Conjunction" "sources" "[I" (.ref x101_R0) := ((p113_1.ext E115).keep K124 (ninS ne120 nin0))
  have c128 : Arv Z T124.heap x101_R0 x101_K0 .int (own_cnt (P4 &&& (15 : Int32))) ((own_sel (P4 &&& (15 : Int32)) ((-2147483648 : Int32) + (P0 &&& (1073741823 : Int32))) ((-1073741824 : Int32) + (P1 &&& (1073741823 : Int32))) (P2 &&& (1073741823 : Int32)) ((1073741824 : Int32) + (P3 &&& (1073741823 : Int32)))).map Value.int) (.int (0 : Int32)) := (((c111.keep K113 (ninS ne107 nin0)).ext E115).keep K124 (ninS ne116 nin0))
  have c129 : Arv Z T124.heap x103_R0 x103_K0 .int (own_cnt (((P4.toUInt32 >>> ((4 : Int32) &&& 31).toUInt32).toInt32) &&& (15 : Int32))) ((own_sel (((P4.toUInt32 >>> ((4 : Int32) &&& 31).toUInt32).toInt32) &&& (15 : Int32)) ((-2147483648 : Int32) + (P0 &&& (1073741823 : Int32))) ((-1073741824 : Int32) + (P1 &&& (1073741823 : Int32))) (P2 &&& (1073741823 : Int32)) ((1073741824 : Int32) + (P3 &&& (1073741823 : Int32)))).map Value.int) (.int (0 : Int32)) := (c122.keep K124 (ninS ne118 nin0))
  have c131 : Exa Z T124.heap b106 "com/example/postil/postil/domain/Conjunction" := ((p113_0.ext E115).keep K124)
  obtain ⟨cq130, kq130, q130a, q130b, q130c⟩ := isOf hZ rfl c131
  obtain ⟨_, _, ⟨T130, L130, k130, n130⟩, -, X130, ⟨Lc130, hQ130, l130, y130, z130⟩, st130⟩ := X124.virtualBack hx (y := (⟨"com/example/postil/postil/domain/Conjunction", "holdsAll", "(Lcom/example/postil/postil/domain/Conjunction;)Z"⟩ : MethodName)) (z := (⟨"com/example/postil/postil/domain/Conjunction", "holdsAll", "(Lcom/example/postil/postil/domain/Conjunction;)Z"⟩ : MethodName)) hown (mvT hZ (hw _ (List.mem_of_getElem? (i := 26) rfl))) (mvT hZ (hw _ (List.mem_of_getElem? (i := 27) rfl))) (notFace_of_selects (args := #[]) (mvT hZ (hw _ (List.mem_of_getElem? (i := 29) rfl)))) (mvT hZ (hw _ (List.mem_of_getElem? (i := 29) rfl))) (mvT hZ (hw _ (List.mem_of_getElem? (i := 28) rfl))) (by decide) (backOf (W := 0) (rm5 l Z a0 hw [] b106 b115 x101_R0 x103_R0 x101_K0 x103_K0 (own_cnt (P4 &&& (15 : Int32))) (own_cnt (((P4.toUInt32 >>> ((4 : Int32) &&& 31).toUInt32).toInt32) &&& (15 : Int32))) (own_sel (P4 &&& (15 : Int32)) ((-2147483648 : Int32) + (P0 &&& (1073741823 : Int32))) ((-1073741824 : Int32) + (P1 &&& (1073741823 : Int32))) (P2 &&& (1073741823 : Int32)) ((1073741824 : Int32) + (P3 &&& (1073741823 : Int32)))) (own_sel (((P4.toUInt32 >>> ((4 : Int32) &&& 31).toUInt32).toInt32) &&& (15 : Int32)) ((-2147483648 : Int32) + (P0 &&& (1073741823 : Int32))) ((-1073741824 : Int32) + (P1 &&& (1073741823 : Int32))) (P2 &&& (1073741823 : Int32)) ((1073741824 : Int32) + (P3 &&& (1073741823 : Int32)))) T124.heap n0 Z125 c127 p124_1 c128 c129 (show ((own_cnt (P4 &&& (15 : Int32)))).toInt = (((own_sel (P4 &&& (15 : Int32)) ((-2147483648 : Int32) + (P0 &&& (1073741823 : Int32))) ((-1073741824 : Int32) + (P1 &&& (1073741823 : Int32))) (P2 &&& (1073741823 : Int32)) ((1073741824 : Int32) + (P3 &&& (1073741823 : Int32)))).length : Nat) : Int) from (own_len (P4 &&& (15 : Int32)) ((-2147483648 : Int32) + (P0 &&& (1073741823 : Int32))) ((-1073741824 : Int32) + (P1 &&& (1073741823 : Int32))) (P2 &&& (1073741823 : Int32)) ((1073741824 : Int32) + (P3 &&& (1073741823 : Int32))) (own_and15 _)).1) (show ((own_cnt (((P4.toUInt32 >>> ((4 : Int32) &&& 31).toUInt32).toInt32) &&& (15 : Int32)))).toInt = (((own_sel (((P4.toUInt32 >>> ((4 : Int32) &&& 31).toUInt32).toInt32) &&& (15 : Int32)) ((-2147483648 : Int32) + (P0 &&& (1073741823 : Int32))) ((-1073741824 : Int32) + (P1 &&& (1073741823 : Int32))) (P2 &&& (1073741823 : Int32)) ((1073741824 : Int32) + (P3 &&& (1073741823 : Int32)))).length : Nat) : Int) from (own_len (((P4.toUInt32 >>> ((4 : Int32) &&& 31).toUInt32).toInt32) &&& (15 : Int32)) ((-2147483648 : Int32) + (P0 &&& (1073741823 : Int32))) ((-1073741824 : Int32) + (P1 &&& (1073741823 : Int32))) (P2 &&& (1073741823 : Int32)) ((1073741824 : Int32) + (P3 &&& (1073741823 : Int32))) (own_and15 _)).1) (show (own_sel (P4 &&& (15 : Int32)) ((-2147483648 : Int32) + (P0 &&& (1073741823 : Int32))) ((-1073741824 : Int32) + (P1 &&& (1073741823 : Int32))) (P2 &&& (1073741823 : Int32)) ((1073741824 : Int32) + (P3 &&& (1073741823 : Int32)))).length ≤ 4 from (own_len (P4 &&& (15 : Int32)) ((-2147483648 : Int32) + (P0 &&& (1073741823 : Int32))) ((-1073741824 : Int32) + (P1 &&& (1073741823 : Int32))) (P2 &&& (1073741823 : Int32)) ((1073741824 : Int32) + (P3 &&& (1073741823 : Int32))) (own_and15 _)).2) (show (own_sel (((P4.toUInt32 >>> ((4 : Int32) &&& 31).toUInt32).toInt32) &&& (15 : Int32)) ((-2147483648 : Int32) + (P0 &&& (1073741823 : Int32))) ((-1073741824 : Int32) + (P1 &&& (1073741823 : Int32))) (P2 &&& (1073741823 : Int32)) ((1073741824 : Int32) + (P3 &&& (1073741823 : Int32)))).length ≤ 4 from (own_len (((P4.toUInt32 >>> ((4 : Int32) &&& 31).toUInt32).toInt32) &&& (15 : Int32)) ((-2147483648 : Int32) + (P0 &&& (1073741823 : Int32))) ((-1073741824 : Int32) + (P1 &&& (1073741823 : Int32))) (P2 &&& (1073741823 : Int32)) ((1073741824 : Int32) + (P3 &&& (1073741823 : Int32))) (own_and15 _)).2)) hZ (hw _ (List.mem_of_getElem? (i := 30) rfl)) (hw _ (List.mem_of_getElem? (i := 11) rfl)) (by decide) (by decide)) q130a q130c (g := (mkF m 122 #[.val (.int P0), .val (.int P1), .val (.int P2), .val (.int P3), .val (.int P4), .val (.int ((-2147483648 : Int32) + (P0 &&& (1073741823 : Int32)))), .val (.int ((-1073741824 : Int32) + (P1 &&& (1073741823 : Int32)))), .val (.int (P2 &&& (1073741823 : Int32))), .val (.int ((1073741824 : Int32) + (P3 &&& (1073741823 : Int32)))), .val (.int (P4 &&& (15 : Int32))), .val (.int (((P4.toUInt32 >>> ((4 : Int32) &&& 31).toUInt32).toInt32) &&& (15 : Int32))), .val (.ref x101_R0), .val (.ref x103_R0), .val (.ref b106), .val (.ref b115), .val (.int (if ((((P4.toUInt32 >>> ((4 : Int32) &&& 31).toUInt32).toInt32) &&& (15 : Int32)) &&& ((P4 &&& (15 : Int32)) ^^^ (-1 : Int32))) = (0 : Int32) then (1 : Int32) else (0 : Int32)))] [(.ref b115), (.ref b106)])) rfl (by rw [hml]; rfl) (Steps.refl _) (argsL := [(.ref b115)]) (rest := []) (lenOf pd_0_2 rfl) rfl (by show 2 * 0 + _ ≤ _; exact Nat.le_of_eq rfl) (hb hby at_122) (fun _ _ => ⟨rfl, rfl, (by decide : 4 + 0 ≤ _), (by decide : 12 + 0 ≤ _)⟩)
  dsimp only [Pt.U, Pt.locs, Pt.cells, Pt.slots] at X130 l130 y130 z130 st130 hQ130
  subst l130 y130 z130
  obtain ⟨rfl, N130q, K130⟩ := hQ130
  have N130 := Fr.app N124 N130q
  have pre132 : ∀ t, Steps p.tables e below (T130.setTop (mkF m 135 #[.val (.int P0), .val (.int P1), .val (.int P2), .val (.int P3), .val (.int P4), .val (.int ((-2147483648 : Int32) + (P0 &&& (1073741823 : Int32)))), .val (.int ((-1073741824 : Int32) + (P1 &&& (1073741823 : Int32)))), .val (.int (P2 &&& (1073741823 : Int32))), .val (.int ((1073741824 : Int32) + (P3 &&& (1073741823 : Int32)))), .val (.int (P4 &&& (15 : Int32))), .val (.int (((P4.toUInt32 >>> ((4 : Int32) &&& 31).toUInt32).toInt32) &&& (15 : Int32))), .val (.ref x101_R0), .val (.ref x103_R0), .val (.ref b106), .val (.ref b115), .val (.int (if ((((P4.toUInt32 >>> ((4 : Int32) &&& 31).toUInt32).toInt32) &&& (15 : Int32)) &&& ((P4 &&& (15 : Int32)) ^^^ (-1 : Int32))) = (0 : Int32) then (1 : Int32) else (0 : Int32)))] [(.int (1 : Int32))])) t → Steps p.tables e below (s₁.setTop (entryFrame m #[(.int P0), (.int P1), (.int P2), (.int P3), (.int P4)] maxLocals)) t := fun t kt => pre126 t (by
      show Steps p.tables e below (T124.setTop (mkF m 116 #[.val (.int P0), .val (.int P1), .val (.int P2), .val (.int P3), .val (.int P4), .val (.int ((-2147483648 : Int32) + (P0 &&& (1073741823 : Int32)))), .val (.int ((-1073741824 : Int32) + (P1 &&& (1073741823 : Int32)))), .val (.int (P2 &&& (1073741823 : Int32))), .val (.int ((1073741824 : Int32) + (P3 &&& (1073741823 : Int32)))), .val (.int (P4 &&& (15 : Int32))), .val (.int (((P4.toUInt32 >>> ((4 : Int32) &&& 31).toUInt32).toInt32) &&& (15 : Int32))), .val (.ref x101_R0), .val (.ref x103_R0), .val (.ref b106), .val (.ref b115), .unset] [(.int (if ((((P4.toUInt32 >>> ((4 : Int32) &&& 31).toUInt32).toInt32) &&& (15 : Int32)) &&& ((P4 &&& (15 : Int32)) ^^^ (-1 : Int32))) = (0 : Int32) then (1 : Int32) else (0 : Int32)))])) _
      refine XS.istore X124.here hx rfl (hb hby at_116) rfl (l' := #[.val (.int P0), .val (.int P1), .val (.int P2), .val (.int P3), .val (.int P4), .val (.int ((-2147483648 : Int32) + (P0 &&& (1073741823 : Int32)))), .val (.int ((-1073741824 : Int32) + (P1 &&& (1073741823 : Int32)))), .val (.int (P2 &&& (1073741823 : Int32))), .val (.int ((1073741824 : Int32) + (P3 &&& (1073741823 : Int32)))), .val (.int (P4 &&& (15 : Int32))), .val (.int (((P4.toUInt32 >>> ((4 : Int32) &&& 31).toUInt32).toInt32) &&& (15 : Int32))), .val (.ref x101_R0), .val (.ref x103_R0), .val (.ref b106), .val (.ref b115), .val (.int (if ((((P4.toUInt32 >>> ((4 : Int32) &&& 31).toUInt32).toInt32) &&& (15 : Int32)) &&& ((P4 &&& (15 : Int32)) ^^^ (-1 : Int32))) = (0 : Int32) then (1 : Int32) else (0 : Int32)))]) rfl ?_
      show Steps p.tables e below (T124.setTop (mkF m 118 #[.val (.int P0), .val (.int P1), .val (.int P2), .val (.int P3), .val (.int P4), .val (.int ((-2147483648 : Int32) + (P0 &&& (1073741823 : Int32)))), .val (.int ((-1073741824 : Int32) + (P1 &&& (1073741823 : Int32)))), .val (.int (P2 &&& (1073741823 : Int32))), .val (.int ((1073741824 : Int32) + (P3 &&& (1073741823 : Int32)))), .val (.int (P4 &&& (15 : Int32))), .val (.int (((P4.toUInt32 >>> ((4 : Int32) &&& 31).toUInt32).toInt32) &&& (15 : Int32))), .val (.ref x101_R0), .val (.ref x103_R0), .val (.ref b106), .val (.ref b115), .val (.int (if ((((P4.toUInt32 >>> ((4 : Int32) &&& 31).toUInt32).toInt32) &&& (15 : Int32)) &&& ((P4 &&& (15 : Int32)) ^^^ (-1 : Int32))) = (0 : Int32) then (1 : Int32) else (0 : Int32)))] [])) _
      refine XS.aload X124.here hx rfl (hb hby at_118) rfl rfl ?_
      show Steps p.tables e below (T124.setTop (mkF m 120 #[.val (.int P0), .val (.int P1), .val (.int P2), .val (.int P3), .val (.int P4), .val (.int ((-2147483648 : Int32) + (P0 &&& (1073741823 : Int32)))), .val (.int ((-1073741824 : Int32) + (P1 &&& (1073741823 : Int32)))), .val (.int (P2 &&& (1073741823 : Int32))), .val (.int ((1073741824 : Int32) + (P3 &&& (1073741823 : Int32)))), .val (.int (P4 &&& (15 : Int32))), .val (.int (((P4.toUInt32 >>> ((4 : Int32) &&& 31).toUInt32).toInt32) &&& (15 : Int32))), .val (.ref x101_R0), .val (.ref x103_R0), .val (.ref b106), .val (.ref b115), .val (.int (if ((((P4.toUInt32 >>> ((4 : Int32) &&& 31).toUInt32).toInt32) &&& (15 : Int32)) &&& ((P4 &&& (15 : Int32)) ^^^ (-1 : Int32))) = (0 : Int32) then (1 : Int32) else (0 : Int32)))] [(.ref b106)])) _
      refine XS.aload X124.here hx rfl (hb hby at_120) rfl rfl ?_
      show Steps p.tables e below (T124.setTop (mkF m 122 #[.val (.int P0), .val (.int P1), .val (.int P2), .val (.int P3), .val (.int P4), .val (.int ((-2147483648 : Int32) + (P0 &&& (1073741823 : Int32)))), .val (.int ((-1073741824 : Int32) + (P1 &&& (1073741823 : Int32)))), .val (.int (P2 &&& (1073741823 : Int32))), .val (.int ((1073741824 : Int32) + (P3 &&& (1073741823 : Int32)))), .val (.int (P4 &&& (15 : Int32))), .val (.int (((P4.toUInt32 >>> ((4 : Int32) &&& 31).toUInt32).toInt32) &&& (15 : Int32))), .val (.ref x101_R0), .val (.ref x103_R0), .val (.ref b106), .val (.ref b115), .val (.int (if ((((P4.toUInt32 >>> ((4 : Int32) &&& 31).toUInt32).toInt32) &&& (15 : Int32)) &&& ((P4 &&& (15 : Int32)) ^^^ (-1 : Int32))) = (0 : Int32) then (1 : Int32) else (0 : Int32)))] [(.ref b115), (.ref b106)])) _
      refine st130.trans ?_
      show Steps p.tables e below (T130.setTop (mkF m 125 #[.val (.int P0), .val (.int P1), .val (.int P2), .val (.int P3), .val (.int P4), .val (.int ((-2147483648 : Int32) + (P0 &&& (1073741823 : Int32)))), .val (.int ((-1073741824 : Int32) + (P1 &&& (1073741823 : Int32)))), .val (.int (P2 &&& (1073741823 : Int32))), .val (.int ((1073741824 : Int32) + (P3 &&& (1073741823 : Int32)))), .val (.int (P4 &&& (15 : Int32))), .val (.int (((P4.toUInt32 >>> ((4 : Int32) &&& 31).toUInt32).toInt32) &&& (15 : Int32))), .val (.ref x101_R0), .val (.ref x103_R0), .val (.ref b106), .val (.ref b115), .val (.int (if ((((P4.toUInt32 >>> ((4 : Int32) &&& 31).toUInt32).toInt32) &&& (15 : Int32)) &&& ((P4 &&& (15 : Int32)) ^^^ (-1 : Int32))) = (0 : Int32) then (1 : Int32) else (0 : Int32)))] [(.int (own_ha (own_sel (P4 &&& (15 : Int32)) ((-2147483648 : Int32) + (P0 &&& (1073741823 : Int32))) ((-1073741824 : Int32) + (P1 &&& (1073741823 : Int32))) (P2 &&& (1073741823 : Int32)) ((1073741824 : Int32) + (P3 &&& (1073741823 : Int32)))) (own_sel (((P4.toUInt32 >>> ((4 : Int32) &&& 31).toUInt32).toInt32) &&& (15 : Int32)) ((-2147483648 : Int32) + (P0 &&& (1073741823 : Int32))) ((-1073741824 : Int32) + (P1 &&& (1073741823 : Int32))) (P2 &&& (1073741823 : Int32)) ((1073741824 : Int32) + (P3 &&& (1073741823 : Int32))))))])) _
      refine XS.iload X130.here hx rfl (hb hby at_125) rfl ?_
      show Steps p.tables e below (T130.setTop (mkF m 127 #[.val (.int P0), .val (.int P1), .val (.int P2), .val (.int P3), .val (.int P4), .val (.int ((-2147483648 : Int32) + (P0 &&& (1073741823 : Int32)))), .val (.int ((-1073741824 : Int32) + (P1 &&& (1073741823 : Int32)))), .val (.int (P2 &&& (1073741823 : Int32))), .val (.int ((1073741824 : Int32) + (P3 &&& (1073741823 : Int32)))), .val (.int (P4 &&& (15 : Int32))), .val (.int (((P4.toUInt32 >>> ((4 : Int32) &&& 31).toUInt32).toInt32) &&& (15 : Int32))), .val (.ref x101_R0), .val (.ref x103_R0), .val (.ref b106), .val (.ref b115), .val (.int (if ((((P4.toUInt32 >>> ((4 : Int32) &&& 31).toUInt32).toInt32) &&& (15 : Int32)) &&& ((P4 &&& (15 : Int32)) ^^^ (-1 : Int32))) = (0 : Int32) then (1 : Int32) else (0 : Int32)))] [(.int (if ((((P4.toUInt32 >>> ((4 : Int32) &&& 31).toUInt32).toInt32) &&& (15 : Int32)) &&& ((P4 &&& (15 : Int32)) ^^^ (-1 : Int32))) = (0 : Int32) then (1 : Int32) else (0 : Int32))), (.int (own_ha (own_sel (P4 &&& (15 : Int32)) ((-2147483648 : Int32) + (P0 &&& (1073741823 : Int32))) ((-1073741824 : Int32) + (P1 &&& (1073741823 : Int32))) (P2 &&& (1073741823 : Int32)) ((1073741824 : Int32) + (P3 &&& (1073741823 : Int32)))) (own_sel (((P4.toUInt32 >>> ((4 : Int32) &&& 31).toUInt32).toInt32) &&& (15 : Int32)) ((-2147483648 : Int32) + (P0 &&& (1073741823 : Int32))) ((-1073741824 : Int32) + (P1 &&& (1073741823 : Int32))) (P2 &&& (1073741823 : Int32)) ((1073741824 : Int32) + (P3 &&& (1073741823 : Int32))))))])) _
      refine XS.icmpNo X130.here hx rfl (hb hby at_127) rfl (teq (show (own_ha (own_sel (P4 &&& (15 : Int32)) ((-2147483648 : Int32) + (P0 &&& (1073741823 : Int32))) ((-1073741824 : Int32) + (P1 &&& (1073741823 : Int32))) (P2 &&& (1073741823 : Int32)) ((1073741824 : Int32) + (P3 &&& (1073741823 : Int32)))) (own_sel (((P4.toUInt32 >>> ((4 : Int32) &&& 31).toUInt32).toInt32) &&& (15 : Int32)) ((-2147483648 : Int32) + (P0 &&& (1073741823 : Int32))) ((-1073741824 : Int32) + (P1 &&& (1073741823 : Int32))) (P2 &&& (1073741823 : Int32)) ((1073741824 : Int32) + (P3 &&& (1073741823 : Int32))))) = (if ((((P4.toUInt32 >>> ((4 : Int32) &&& 31).toUInt32).toInt32) &&& (15 : Int32)) &&& ((P4 &&& (15 : Int32)) ^^^ (-1 : Int32))) = (0 : Int32) then (1 : Int32) else (0 : Int32)) from (own_law _ _ _ _ (own_ord P0 P1 P2 P3).1 (own_ord P0 P1 P2 P3).2.1 (own_ord P0 P1 P2 P3).2.2 _ _ (own_and15 _) (own_and15 _)))).2 ?_
      show Steps p.tables e below (T130.setTop (mkF m 130 #[.val (.int P0), .val (.int P1), .val (.int P2), .val (.int P3), .val (.int P4), .val (.int ((-2147483648 : Int32) + (P0 &&& (1073741823 : Int32)))), .val (.int ((-1073741824 : Int32) + (P1 &&& (1073741823 : Int32)))), .val (.int (P2 &&& (1073741823 : Int32))), .val (.int ((1073741824 : Int32) + (P3 &&& (1073741823 : Int32)))), .val (.int (P4 &&& (15 : Int32))), .val (.int (((P4.toUInt32 >>> ((4 : Int32) &&& 31).toUInt32).toInt32) &&& (15 : Int32))), .val (.ref x101_R0), .val (.ref x103_R0), .val (.ref b106), .val (.ref b115), .val (.int (if ((((P4.toUInt32 >>> ((4 : Int32) &&& 31).toUInt32).toInt32) &&& (15 : Int32)) &&& ((P4 &&& (15 : Int32)) ^^^ (-1 : Int32))) = (0 : Int32) then (1 : Int32) else (0 : Int32)))] [])) _
      refine XS.iconst X130.here hx rfl (hb hby at_130) ?_
      show Steps p.tables e below (T130.setTop (mkF m 131 #[.val (.int P0), .val (.int P1), .val (.int P2), .val (.int P3), .val (.int P4), .val (.int ((-2147483648 : Int32) + (P0 &&& (1073741823 : Int32)))), .val (.int ((-1073741824 : Int32) + (P1 &&& (1073741823 : Int32)))), .val (.int (P2 &&& (1073741823 : Int32))), .val (.int ((1073741824 : Int32) + (P3 &&& (1073741823 : Int32)))), .val (.int (P4 &&& (15 : Int32))), .val (.int (((P4.toUInt32 >>> ((4 : Int32) &&& 31).toUInt32).toInt32) &&& (15 : Int32))), .val (.ref x101_R0), .val (.ref x103_R0), .val (.ref b106), .val (.ref b115), .val (.int (if ((((P4.toUInt32 >>> ((4 : Int32) &&& 31).toUInt32).toInt32) &&& (15 : Int32)) &&& ((P4 &&& (15 : Int32)) ^^^ (-1 : Int32))) = (0 : Int32) then (1 : Int32) else (0 : Int32)))] [(.int (1 : Int32))])) _
      refine XS.goto X130.here hx rfl (pc0 := 131) (pc' := 135) rfl (hb hby at_131) (by decide) (by decide) ?_
      exact kt)
  obtain ⟨fs, hr, hrun, hended, hW, hsame⟩ := X130.leave (v := some (.int (1 : Int32))) (fun h => by rw [Bd.returns] at h; cases h)
  refine ⟨_, _, pre132 _ ?_, hrun, hended, _, _, rfl, ?_, ⟨_, rfl⟩, hW, hsame.mono (by decide) (by decide)⟩
  · show Steps p.tables e below (T130.setTop (mkF m 135 #[.val (.int P0), .val (.int P1), .val (.int P2), .val (.int P3), .val (.int P4), .val (.int ((-2147483648 : Int32) + (P0 &&& (1073741823 : Int32)))), .val (.int ((-1073741824 : Int32) + (P1 &&& (1073741823 : Int32)))), .val (.int (P2 &&& (1073741823 : Int32))), .val (.int ((1073741824 : Int32) + (P3 &&& (1073741823 : Int32)))), .val (.int (P4 &&& (15 : Int32))), .val (.int (((P4.toUInt32 >>> ((4 : Int32) &&& 31).toUInt32).toInt32) &&& (15 : Int32))), .val (.ref x101_R0), .val (.ref x103_R0), .val (.ref b106), .val (.ref b115), .val (.int (if ((((P4.toUInt32 >>> ((4 : Int32) &&& 31).toUInt32).toInt32) &&& (15 : Int32)) &&& ((P4 &&& (15 : Int32)) ^^^ (-1 : Int32))) = (0 : Int32) then (1 : Int32) else (0 : Int32)))] [(.int (1 : Int32))])) _
    exact retN X130 hx (t := .boolean) Bd.returns (by simp) (hb hby at_135) hr
  · show Q0 Z P0 P1 P2 P3 P4 h0 n0 _ T130.heap _
    rw [K130]
    exact ⟨rfl, N130⟩
set_option maxRecDepth 65536 in
set_option maxHeartbeats 40000000 in
theorem comes_1 {Post : Tables → Env → Array Value → State → Outcome → State → Prop} (hpost : ∀ tb e args s v u, (limb_1_1.after args s (.returned v) u = true ∧ limb_1_2.after args s (.returned v) u = true ∧ True) → FrameEnd s (.returned v) u (Jvm.fieldLocs frame_1_writes args s ++ Jvm.arrayLocs frame_1_arrays args s ++ Jvm.staticLocs frame_1_statics s) 16 128 → Post tb e args s (.returned v) u) :
    ArmFor flags0 classFile x code maxLocals ret World_1 tables_1 room_1 Calls_1 rest_1 Pre_1 Post := by
  intro l hfl _ _ p e ha hc hk s m args below hf hA hF happ hP
  obtain ⟨hcalls, hrest, hpre⟩ := hP
  obtain ⟨-, -, -, hnamed, -, -, -, hat⟩ := (Spec.applies_iff hf).mp happ
  obtain ⟨hg, hn⟩ := and_e (Cond.before_iff.mp (show (Jvm.Cond.and given_1 narrow_1).before args s = true from hpre))
  obtain ⟨gv1, gv2⟩ := and_e hg
  obtain ⟨gv3, gv4⟩ := and_e gv2
  obtain ⟨gv5, gv6⟩ := and_e gv4
  obtain ⟨gv7, gv8⟩ := and_e gv6
  obtain ⟨gv9, gv10⟩ := and_e gv8
  obtain ⟨w0, w1, w2, w3, w4, rfl⟩ : ∃ w0 w1 w2 w3 w4 : Value, args = #[w0, w1, w2, w3, w4] := by
    have hs : args.size = 5 := by simpa [Cond.value, given_1] using gv1
    obtain ⟨L⟩ := args
    match L, hs with
    | [w0, w1, w2, w3, w4], _ => exact ⟨w0, w1, w2, w3, w4, rfl⟩
  have hw := fun d (hd : d ∈ tables_1) => atoms_spec (ws := Jvm.Cond.code x code maxLocals ret :: tables_1) hat d (List.mem_cons_of_mem _ hd)
  have hfit : Fit s := fun {y c} hc i hi => by
    obtain ⟨ha, rfl⟩ := Array.getElem?_eq_some_iff.mp hc
    have q := List.all_eq_true.mp ((Array.all_eq_true_iff_forall_mem.mp hF) _ (Array.getElem_mem ha)) i (List.mem_range.mpr hi)
    simpa [Array.getElem?_eq_getElem hi] using q
  obtain ⟨i0, ei0⟩ := is_v gv3
  obtain rfl : w0 = (.int i0) := Option.some.inj ei0
  obtain ⟨i1, ei1⟩ := is_v gv5
  obtain rfl : w1 = (.int i1) := Option.some.inj ei1
  obtain ⟨i2, ei2⟩ := is_v gv7
  obtain rfl : w2 = (.int i2) := Option.some.inj ei2
  obtain ⟨i3, ei3⟩ := is_v gv9
  obtain rfl : w3 = (.int i3) := Option.some.inj ei3
  obtain ⟨i4, ei4⟩ := is_v gv10
  obtain rfl : w4 = (.int i4) := Option.some.inj ei4
  obtain ⟨n, o, h1, h2, h3, _, L, rfl, ⟨rfl, N⟩, hq⟩ := rm0 l s _ hw tables_1 i0 i1 i2 i3 i4  s.heap s.heap.size (Nat.le_refl _)  p e ha hc hk s m _ below hf ((Spec.applies_iff_loose hf).mp happ).1 ⟨rfl, State.Warmed39.refl s, rfl⟩ trivial
  refine ⟨n, _, h1, h2, h3, hpost _ _ _ _ _ _ ⟨Cond.after_iff.mpr rfl, Cond.after_iff.mpr (eq_i res_at (Term.int_eval (1)) rfl), trivial⟩ ⟨hq.1, hq.2.1, (hq.2.2.sift fun y hy => Or.inr (N y hy)).mono (by decide) (by decide)⟩⟩
theorem main_1_1 : Claimed_1_1 := comes_1 fun _ _ _ _ _ _ h hF => ⟨h.1, hF⟩
theorem main_1_2 : Claimed_1_2 := comes_1 fun _ _ _ _ _ _ h hF => ⟨h.2.1, hF⟩
end Jvm.Pilot.@@N@@
namespace Jvm.Pilot.@@N@@
open Jvm Jvm.ClassFile Sem Op Lib Jvm.Free Jvm.Stand Jvm.Pilot.@@N@@.Jvm.D
/-! MADE BY PROGRAM (witnessworld.py) out of the Statement's table words and the real class files: 11 classes; the members and pool entries that the words name. The judged class is class 1, her method 1. -/
namespace start1
open Jvm.ClassFile
def u (s : String) : CpInfo := .utf8 (stringToUtf16 s)
/-- a pool by its gaps: so many unusable entries, then the entry; so many at the end -/
def gap : Nat → List CpInfo → List CpInfo
  | 0, r => r
  | n + 1, r => .unusable :: gap n r
def poolList (es : List (Nat × CpInfo)) (last : Nat) : List CpInfo := es.foldr (fun e r => gap e.1 (e.2 :: r)) (gap last [])
def pool (es : List (Nat × CpInfo)) (last : Nat) : Array CpInfo := ⟨poolList es last⟩
def fileOf (pool : Array CpInfo) (this : Nat) (attrs : Array Attribute := #[]) (ms : Array MethodInfo := #[]) (fl : Nat := 33) (sup : Nat := 0) (ifs : Array Nat := #[]) (fds : Array FieldInfo := #[]) : ClassFile where
  minorVersion := 0
  majorVersion := 65
  constantPool := pool
  accessFlags := fl
  thisClass := this
  superClass := sup
  interfaces := ifs
  fields := fds
  methods := ms
  attributes := attrs
def plain (name : String) (sup : Option ClassId) : Class where
  name := name
  kind := .ordinary
  loader := none
  accessFlags := 33
  super := sup
  interfaces := #[]
  cf := none
  fields := #[]
  methods := #[]
  instanceTypes := #[]
  staticTypes := #[]
  resolved := #[]
  callSites := []
  init := .initialized
  statics := none
  mirror := none

def pool0 : Array CpInfo := pool [(5, u "<init>"), (0, u "()V"), (1, .class_ 10), (1, u "java/lang/Object")] 113

def k0c0 : Code := { maxStack := 0, maxLocals := 1, code := object_method_1_code, exceptionTable := #[], attributes := #[] }
def k0m0 : Method := { name := "<init>", desc := "()V", sig := { parameters := [], returnType := none }, accessFlags := 1, code := some k0c0 }
/-- java/lang/Object -/
def k0 : Class := { plain "java/lang/Object" none with
  accessFlags := 33
  interfaces := #[]
  cf := some (fileOf pool0 8 #[] #[{ accessFlags := 1, nameIndex := 5, descriptorIndex := 6, attributes := #[] }] 33 0 #[] #[])
  fields := #[]
  methods := #[k0m0]
  instanceTypes := #[]
  staticTypes := #[]
  resolved := Array.replicate 124 none
  statics := none }

def pool1 : Array CpInfo := pool [(2, .class_ 4), (1, u "java/lang/Object"), (0, u "<init>"), (0, u "()V"), (2, .integer 2147483648), (0, .integer 1073741823), (0, .integer 3221225472), (0, .integer 1073741824), (0, .methodref 14 15), (0, .class_ 16), (0, .nameAndType 17 18), (0, u "com/example/postil/postil/domain/ConjunctionHoldsAllPinLaw"), (0, u "build"), (0, u "(IIIII)[I"), (0, .class_ 20), (0, u "com/example/postil/postil/domain/Conjunction"), (0, .methodref 19 22), (0, .nameAndType 5 23), (0, u "([I)V"), (0, .methodref 19 25), (0, .nameAndType 26 27), (0, u "holdsAll"), (0, u "(Lcom/example/postil/postil/domain/Conjunction;)Z"), (2, u "law"), (0, u "(IIIII)Z")] 5

def k1m0 : Method := { name := "<init>", desc := "()V", sig := { parameters := [], returnType := none }, accessFlags := 1, code := none }
def k1c1 : Code := { maxStack := 5, maxLocals := 16, code := code, exceptionTable := #[], attributes := #[] }
def k1m1 : Method := { name := "law", desc := "(IIIII)Z", sig := { parameters := [.int, .int, .int, .int, .int], returnType := some .boolean }, accessFlags := 9, code := some k1c1 }
def k1c2 : Code := { maxStack := 3, maxLocals := 8, code := method_3_code, exceptionTable := #[], attributes := #[] }
def k1m2 : Method := { name := "build", desc := "(IIIII)[I", sig := { parameters := [.int, .int, .int, .int, .int], returnType := some (.array .int) }, accessFlags := 10, code := some k1c2 }
/-- com/example/postil/postil/domain/ConjunctionHoldsAllPinLaw -/
def k1 : Class := { plain "com/example/postil/postil/domain/ConjunctionHoldsAllPinLaw" (some 0) with
  accessFlags := 49
  interfaces := #[]
  cf := some (fileOf pool1 14 #[] #[{ accessFlags := 1, nameIndex := 5, descriptorIndex := 6, attributes := #[] }, { accessFlags := 9, nameIndex := 30, descriptorIndex := 31, attributes := #[] }, { accessFlags := 10, nameIndex := 17, descriptorIndex := 18, attributes := #[] }] 49 2 #[] #[])
  fields := #[]
  methods := #[k1m0, k1m1, k1m2]
  instanceTypes := #[]
  staticTypes := #[]
  resolved := Array.replicate 37 none
  statics := none }

def pool2 : Array CpInfo := pool [(1, .methodref 2 3), (0, .class_ 4), (0, .nameAndType 5 6), (0, u "java/lang/Object"), (0, u "<init>"), (0, u "()V"), (0, .fieldref 8 9), (0, .class_ 10), (0, .nameAndType 11 12), (0, u "com/example/postil/postil/domain/Conjunction"), (0, u "sources"), (0, u "[I"), (0, .methodref 14 15), (0, .class_ 16), (0, .nameAndType 17 18), (0, u "java/util/Arrays"), (0, u "hashCode"), (0, u "([I)I"), (0, .fieldref 8 20), (0, .nameAndType 21 22), (0, u "hash"), (0, u "I"), (15, u "([I)V"), (6, u "NONE"), (0, u "Lcom/example/postil/postil/domain/Conjunction;"), (10, u "holdsAll"), (0, u "(Lcom/example/postil/postil/domain/Conjunction;)Z")] 6

def k2c0 : Code := { maxStack := 2, maxLocals := 2, code := prog_38_method_1_code, exceptionTable := #[], attributes := #[] }
def k2m0 : Method := { name := "<init>", desc := "([I)V", sig := { parameters := [(.array .int)], returnType := none }, accessFlags := 0, code := some k2c0 }
def k2c1 : Code := { maxStack := 2, maxLocals := 7, code := prog_38_method_6_code, exceptionTable := #[], attributes := #[] }
def k2m1 : Method := { name := "holdsAll", desc := "(Lcom/example/postil/postil/domain/Conjunction;)Z", sig := { parameters := [(.object "com/example/postil/postil/domain/Conjunction")], returnType := some .boolean }, accessFlags := 0, code := some k2c1 }
/-- com/example/postil/postil/domain/Conjunction -/
def k2 : Class := { plain "com/example/postil/postil/domain/Conjunction" (some 0) with
  accessFlags := 48
  interfaces := #[]
  cf := some (fileOf pool2 8 #[] #[{ accessFlags := 0, nameIndex := 5, descriptorIndex := 38, attributes := #[] }, { accessFlags := 0, nameIndex := 57, descriptorIndex := 58, attributes := #[] }] 48 2 #[] #[{ accessFlags := 24, nameIndex := 45, descriptorIndex := 46, attributes := #[] }, { accessFlags := 18, nameIndex := 11, descriptorIndex := 12, attributes := #[] }, { accessFlags := 18, nameIndex := 21, descriptorIndex := 22, attributes := #[] }])
  fields := #[{ name := "NONE", type := (.object "com/example/postil/postil/domain/Conjunction"), accessFlags := 24, slot := 0, constantValue := 0 }, { name := "sources", type := (.array .int), accessFlags := 18, slot := 0, constantValue := 0 }, { name := "hash", type := .int, accessFlags := 18, slot := 1, constantValue := 0 }]
  methods := #[k2m0, k2m1]
  instanceTypes := #[(.array .int), .int]
  staticTypes := #[(.object "com/example/postil/postil/domain/Conjunction")]
  resolved := Array.replicate 65 none
  statics := none }

def pool3 : Array CpInfo := pool [(2, .class_ 4), (1, u "java/lang/Object"), (0, u "<init>"), (0, u "()V"), (7, .class_ 16), (1, u "java/util/Arrays"), (57, .class_ 76), (1, u "java/util/Arrays$NaturalOrder"), (36, .class_ 115), (1, u "java/util/Arrays$LegacyMergeSort"), (1, u "Z"), (128, .class_ 248), (1, u "jdk/internal/util/ArraysSupport"), (126, .class_ 376), (0, u "java/util/Arrays$ArrayList"), (2, .methodref 246 380), (0, .nameAndType 381 382), (0, u "vectorizedHashCode"), (0, u "(Ljava/lang/Object;IIII)I"), (2, u "hashCode"), (22, u "([I)I"), (36, u "$assertionsDisabled"), (269, u "MIN_ARRAY_SORT_GRAN"), (0, u "I"), (2, u "INSERTIONSORT_THRESHOLD"), (255, .class_ 976), (0, u "java/util/Arrays$ArrayItr")] 52

def k3m0 : Method := { name := "<init>", desc := "()V", sig := { parameters := [], returnType := none }, accessFlags := 2, code := none }
def k3c1 : Code := { maxStack := 5, maxLocals := 1, code := jdk_65_method_150_code, exceptionTable := #[], attributes := #[] }
def k3m1 : Method := { name := "hashCode", desc := "([I)I", sig := { parameters := [(.array .int)], returnType := some .int }, accessFlags := 9, code := some k3c1 }
/-- java/util/Arrays -/
def k3 : Class := { plain "java/util/Arrays" (some 0) with
  accessFlags := 49
  interfaces := #[]
  cf := some (fileOf pool3 14 #[.nestMembers #[975, 375, 113, 74]] #[{ accessFlags := 2, nameIndex := 5, descriptorIndex := 6, attributes := #[] }, { accessFlags := 9, nameIndex := 385, descriptorIndex := 408, attributes := #[] }] 49 2 #[] #[{ accessFlags := 26, nameIndex := 715, descriptorIndex := 716, attributes := #[] }, { accessFlags := 26, nameIndex := 719, descriptorIndex := 716, attributes := #[] }, { accessFlags := 4120, nameIndex := 445, descriptorIndex := 117, attributes := #[] }])
  fields := #[{ name := "MIN_ARRAY_SORT_GRAN", type := .int, accessFlags := 26, slot := 0, constantValue := 0 }, { name := "INSERTIONSORT_THRESHOLD", type := .int, accessFlags := 26, slot := 1, constantValue := 0 }, { name := "$assertionsDisabled", type := .boolean, accessFlags := 4120, slot := 2, constantValue := 0 }]
  methods := #[k3m0, k3m1]
  instanceTypes := #[]
  staticTypes := #[.int, .int, .boolean]
  resolved := Array.replicate 1029 none
  statics := none }

def pool4 : Array CpInfo := pool [(9, u "<init>"), (6, .class_ 18), (1, u "java/lang/Object"), (0, u "()V"), (1, .class_ 23), (1, u "jdk/internal/util/ArraysSupport"), (0, u "LOG2_ARRAY_LONG_INDEX_SCALE"), (0, u "I"), (2, u "U"), (0, u "Ljdk/internal/misc/Unsafe;"), (8, u "BIG_ENDIAN"), (0, u "Z"), (8, u "LOG2_BYTE_BIT_SIZE"), (4, u "LOG2_ARRAY_INT_INDEX_SCALE"), (19, u "hashCode"), (8, .class_ 83), (0, u "[I"), (0, .methodref 21 85), (0, .nameAndType 73 86), (0, u "(I[III)I"), (21, u "JLA"), (0, u "Ljdk/internal/access/JavaLangAccess;"), (11, u "LOG2_ARRAY_BOOLEAN_INDEX_SCALE"), (9, u "LOG2_ARRAY_BYTE_INDEX_SCALE"), (5, u "LOG2_ARRAY_CHAR_INDEX_SCALE"), (5, u "LOG2_ARRAY_SHORT_INDEX_SCALE"), (18, u "LOG2_ARRAY_FLOAT_INDEX_SCALE"), (24, u "LOG2_ARRAY_DOUBLE_INDEX_SCALE"), (89, u "T_BOOLEAN"), (2, u "T_CHAR"), (1, u "T_FLOAT"), (1, u "T_DOUBLE"), (1, u "T_BYTE"), (1, u "T_SHORT"), (1, u "T_INT"), (1, u "T_LONG"), (1, u "SOFT_MAX_ARRAY_LENGTH"), (26, u "vectorizedHashCode"), (0, u "(Ljava/lang/Object;IIII)I")] 55

def k4m0 : Method := { name := "<init>", desc := "()V", sig := { parameters := [], returnType := none }, accessFlags := 2, code := none }
def k4c1 : Code := { maxStack := 4, maxLocals := 5, code := jdk_48_method_4_code, exceptionTable := #[], attributes := #[] }
def k4m1 : Method := { name := "vectorizedHashCode", desc := "(Ljava/lang/Object;IIII)I", sig := { parameters := [(.object "java/lang/Object"), .int, .int, .int, .int], returnType := some .int }, accessFlags := 9, code := some k4c1 }
def k4c2 : Code := { maxStack := 3, maxLocals := 6, code := jdk_48_method_9_code, exceptionTable := #[], attributes := #[] }
def k4m2 : Method := { name := "hashCode", desc := "(I[III)I", sig := { parameters := [.int, (.array .int), .int, .int], returnType := some .int }, accessFlags := 10, code := some k4c2 }
/-- jdk/internal/util/ArraysSupport -/
def k4 : Class := { plain "jdk/internal/util/ArraysSupport" (some 0) with
  accessFlags := 33
  interfaces := #[]
  cf := some (fileOf pool4 21 #[] #[{ accessFlags := 2, nameIndex := 9, descriptorIndex := 19, attributes := #[] }, { accessFlags := 9, nameIndex := 321, descriptorIndex := 322, attributes := #[] }, { accessFlags := 10, nameIndex := 73, descriptorIndex := 86, attributes := #[] }] 33 16 #[] #[{ accessFlags := 24, nameIndex := 28, descriptorIndex := 29, attributes := #[] }, { accessFlags := 26, nameIndex := 38, descriptorIndex := 39, attributes := #[] }, { accessFlags := 25, nameIndex := 121, descriptorIndex := 25, attributes := #[] }, { accessFlags := 25, nameIndex := 131, descriptorIndex := 25, attributes := #[] }, { accessFlags := 25, nameIndex := 137, descriptorIndex := 25, attributes := #[] }, { accessFlags := 25, nameIndex := 143, descriptorIndex := 25, attributes := #[] }, { accessFlags := 25, nameIndex := 53, descriptorIndex := 25, attributes := #[] }, { accessFlags := 25, nameIndex := 24, descriptorIndex := 25, attributes := #[] }, { accessFlags := 25, nameIndex := 162, descriptorIndex := 25, attributes := #[] }, { accessFlags := 25, nameIndex := 187, descriptorIndex := 25, attributes := #[] }, { accessFlags := 26, nameIndex := 48, descriptorIndex := 25, attributes := #[] }, { accessFlags := 25, nameIndex := 277, descriptorIndex := 25, attributes := #[] }, { accessFlags := 25, nameIndex := 280, descriptorIndex := 25, attributes := #[] }, { accessFlags := 25, nameIndex := 282, descriptorIndex := 25, attributes := #[] }, { accessFlags := 25, nameIndex := 284, descriptorIndex := 25, attributes := #[] }, { accessFlags := 25, nameIndex := 286, descriptorIndex := 25, attributes := #[] }, { accessFlags := 25, nameIndex := 288, descriptorIndex := 25, attributes := #[] }, { accessFlags := 25, nameIndex := 290, descriptorIndex := 25, attributes := #[] }, { accessFlags := 25, nameIndex := 292, descriptorIndex := 25, attributes := #[] }, { accessFlags := 26, nameIndex := 108, descriptorIndex := 109, attributes := #[] }, { accessFlags := 25, nameIndex := 294, descriptorIndex := 25, attributes := #[] }])
  fields := #[{ name := "U", type := (.object "jdk/internal/misc/Unsafe"), accessFlags := 24, slot := 0, constantValue := 0 }, { name := "BIG_ENDIAN", type := .boolean, accessFlags := 26, slot := 1, constantValue := 0 }, { name := "LOG2_ARRAY_BOOLEAN_INDEX_SCALE", type := .int, accessFlags := 25, slot := 2, constantValue := 0 }, { name := "LOG2_ARRAY_BYTE_INDEX_SCALE", type := .int, accessFlags := 25, slot := 3, constantValue := 0 }, { name := "LOG2_ARRAY_CHAR_INDEX_SCALE", type := .int, accessFlags := 25, slot := 4, constantValue := 0 }, { name := "LOG2_ARRAY_SHORT_INDEX_SCALE", type := .int, accessFlags := 25, slot := 5, constantValue := 0 }, { name := "LOG2_ARRAY_INT_INDEX_SCALE", type := .int, accessFlags := 25, slot := 6, constantValue := 0 }, { name := "LOG2_ARRAY_LONG_INDEX_SCALE", type := .int, accessFlags := 25, slot := 7, constantValue := 0 }, { name := "LOG2_ARRAY_FLOAT_INDEX_SCALE", type := .int, accessFlags := 25, slot := 8, constantValue := 0 }, { name := "LOG2_ARRAY_DOUBLE_INDEX_SCALE", type := .int, accessFlags := 25, slot := 9, constantValue := 0 }, { name := "LOG2_BYTE_BIT_SIZE", type := .int, accessFlags := 26, slot := 10, constantValue := 0 }, { name := "T_BOOLEAN", type := .int, accessFlags := 25, slot := 11, constantValue := 0 }, { name := "T_CHAR", type := .int, accessFlags := 25, slot := 12, constantValue := 0 }, { name := "T_FLOAT", type := .int, accessFlags := 25, slot := 13, constantValue := 0 }, { name := "T_DOUBLE", type := .int, accessFlags := 25, slot := 14, constantValue := 0 }, { name := "T_BYTE", type := .int, accessFlags := 25, slot := 15, constantValue := 0 }, { name := "T_SHORT", type := .int, accessFlags := 25, slot := 16, constantValue := 0 }, { name := "T_INT", type := .int, accessFlags := 25, slot := 17, constantValue := 0 }, { name := "T_LONG", type := .int, accessFlags := 25, slot := 18, constantValue := 0 }, { name := "JLA", type := (.object "jdk/internal/access/JavaLangAccess"), accessFlags := 26, slot := 19, constantValue := 0 }, { name := "SOFT_MAX_ARRAY_LENGTH", type := .int, accessFlags := 25, slot := 20, constantValue := 0 }]
  methods := #[k4m0, k4m1, k4m2]
  instanceTypes := #[]
  staticTypes := #[(.object "jdk/internal/misc/Unsafe"), .boolean, .int, .int, .int, .int, .int, .int, .int, .int, .int, .int, .int, .int, .int, .int, .int, .int, .int, (.object "jdk/internal/access/JavaLangAccess"), .int]
  resolved := Array.replicate 378 none
  statics := none }

def pool5 : Array CpInfo := pool [(1, u "java/lang/Cloneable"), (0, .class_ 1), (0, u "java/lang/Object"), (0, .class_ 3)] 3

/-- java/lang/Cloneable -/
def k5 : Class := { plain "java/lang/Cloneable" (some 0) with
  accessFlags := 1537
  interfaces := #[]
  cf := some (fileOf pool5 2 #[] #[] 1537 4 #[] #[])
  fields := #[]
  methods := #[]
  instanceTypes := #[]
  staticTypes := #[]
  resolved := Array.replicate 8 none
  statics := none }

def pool6 : Array CpInfo := pool [(1, u "java/io/Serializable"), (0, .class_ 1), (0, u "java/lang/Object"), (0, .class_ 3)] 3

/-- java/io/Serializable -/
def k6 : Class := { plain "java/io/Serializable" (some 0) with
  accessFlags := 1537
  interfaces := #[]
  cf := some (fileOf pool6 2 #[] #[] 1537 4 #[] #[])
  fields := #[]
  methods := #[]
  instanceTypes := #[]
  staticTypes := #[]
  resolved := Array.replicate 8 none
  statics := none }

/-- the primitive byte -/
def k7 : Class := { plain "byte" none with kind := .primitive 'B', accessFlags := 0x411 }
/-- [B -/
def k8 : Class := { plain "[B" (some 0) with kind := .array 7 .byte, interfaces := #[5, 6], accessFlags := 1041 }

/-- the primitive int -/
def k9 : Class := { plain "int" none with kind := .primitive 'I', accessFlags := 0x411 }
/-- [I -/
def k10 : Class := { plain "[I" (some 0) with kind := .array 9 .int, interfaces := #[5, 6], accessFlags := 1041 }

def heap : Heap := #[]
def classes : Array Class := #[k0, k1, k2, k3, k4, k5, k6, k7, k8, k9, k10]
def interned : List (Array UInt16 × Addr) := []
def slotsUsed : Nat := 0
def theMethod : MethodId := ⟨1, 1⟩
def args0 : Array Value := #[.int 1, .int 2, .int 3, .int 4, .int 5]
def aboutOver (below : List Frame) : State where
  vm := { classes := classes, interned := interned.toArray }
  heap := heap
  slotsUsed := slotsUsed
  threads := #[{ frames := .invoking theMethod args0 :: below }]
def below0 : List Frame := [.native { method := ⟨0, 0⟩, args := #[] }]
def about1 : State := aboutOver below0
def p0 : Program := .bare "" "" ""
def e0 : Env := launch0.env 0 0 0
theorem w_frames : about1.frames = Frame.invoking theMethod args0 :: below0 := rfl
set_option maxRecDepth 65536 in
theorem w_args : argsFit about1.vm theMethod args0 = true := by decide +kernel
set_option maxRecDepth 65536 in
theorem w_heap : heapFits about1 = true := by decide +kernel
set_option maxRecDepth 65536 in
theorem w_runnable : about1.curStatus? = some .runnable := by decide +kernel
set_option maxRecDepth 65536 in
theorem w_alone : about1.alone = true := by decide +kernel
set_option maxRecDepth 65536 in
theorem w_named : about1.methodNamed? x = some theMethod := by decide +kernel
set_option maxRecDepth 65536 in
theorem w_hears : about1.hears theMethod below0 = true := by decide +kernel
set_option maxRecDepth 65536 in
theorem w_ripe : about1.ripe theMethod args0 below0 = true := by decide +kernel
theorem w_running : about1.status = .running := rfl
set_option maxRecDepth 65536 in
theorem w_room : about1.hasRoom e0.platform room_1 = true :=
  launch0.hasRoom_least _ room_1 (by decide +kernel) (by decide +kernel) (by decide +kernel) (by decide +kernel) (by decide +kernel) (by decide +kernel)
theorem allAtoms_all (ts : List Jvm.Cond) (a : Array Jvm.Value) (st : Jvm.State) : (allAtoms ts).before a st = ts.all (fun c => c.before a st) := by
  induction ts with
  | nil => rfl
  | cons c t ih =>
    show (Jvm.Cond.and c (allAtoms t)).before a st = _
    rw [Jvm.Cond.before_and, ih, List.all_cons]
def words1 : List Jvm.Cond := Jvm.Cond.code x code maxLocals ret :: tables_1
/-- a 'code' word, met by the world's own term for the bytes: nothing is compared byte by byte -/
theorem code_word {y : MethodName} {bytes : ByteArray} {mx : Nat} {rt : Option FieldType} {a : Array Value} {s : State} {m : MethodId} {meth : Method} {c : Code} (h1 : s.methodNamed? y = some m) (h2 : s.vm.method? m = some meth) (h3 : meth.code = some c) (h4 : c.code = bytes)
    (h5 : (c.maxLocals == mx && c.exceptionTable.isEmpty && decide (c.maxStack ≤ mostOperands) && decide (meth.sig.returnType = rt) && !meth.locks && decide (parseMethodDescriptor y.desc = some meth.sig)) = true) : (Jvm.Cond.code y bytes mx rt).before a s = true := by
  simp only [Bool.and_eq_true, beq_iff_eq, Bool.not_eq_true', decide_eq_true_eq] at h5
  obtain ⟨⟨⟨⟨⟨g1, g2⟩, g3⟩, g4⟩, g5⟩, g6⟩ := h5
  simp [Cond.before, Cond.holds, Cond.value, h1, h2, h3, h4, g1, g2, g3, g4, g5, g6]
def isCode : Jvm.Cond → Bool
  | .code _ _ _ _ => true
  | _ => false
theorem all_split {L : List Jvm.Cond} {P : Jvm.Cond → Bool} (h1 : L.all (fun c => isCode c || P c) = true) (h2 : ∀ c ∈ L.filter isCode, P c = true) : L.all P = true := by
  refine List.all_eq_true.mpr fun c hc => ?_
  have h := List.all_eq_true.mp h1 c hc
  rcases Bool.eq_false_or_eq_true (isCode c) with hi | hi
  · exact h2 c (List.mem_filter.mpr ⟨hc, hi⟩)
  · simpa [hi] using h
set_option maxRecDepth 65536 in
theorem w_c0 : (Jvm.Cond.code x code maxLocals ret).before args0 about1 = true := code_word (m := ⟨1, 1⟩) (meth := k1m1) (c := k1c1) (by decide +kernel) rfl rfl rfl (by decide +kernel)
set_option maxRecDepth 65536 in
theorem w_c1 : (Jvm.Cond.code ({ cls := "com/example/postil/postil/domain/ConjunctionHoldsAllPinLaw", name := "build", desc := "(IIIII)[I" } : Jvm.MethodName) method_3_code (8 : Nat) (Option.some (Jvm.ClassFile.FieldType.array Jvm.ClassFile.FieldType.int))).before args0 about1 = true := code_word (m := ⟨1, 2⟩) (meth := k1m2) (c := k1c2) (by decide +kernel) rfl rfl rfl (by decide +kernel)
set_option maxRecDepth 65536 in
theorem w_c2 : (Jvm.Cond.code ({ cls := "com/example/postil/postil/domain/Conjunction", name := "<init>", desc := "([I)V" } : Jvm.MethodName) prog_38_method_1_code (2 : Nat) (Option.none : Option Jvm.ClassFile.FieldType)).before args0 about1 = true := code_word (m := ⟨2, 0⟩) (meth := k2m0) (c := k2c0) (by decide +kernel) rfl rfl rfl (by decide +kernel)
set_option maxRecDepth 65536 in
theorem w_c3 : (Jvm.Cond.code ({ cls := "java/lang/Object", name := "<init>", desc := "()V" } : Jvm.MethodName) object_method_1_code (1 : Nat) (Option.none : Option Jvm.ClassFile.FieldType)).before args0 about1 = true := code_word (m := ⟨0, 0⟩) (meth := k0m0) (c := k0c0) (by decide +kernel) rfl rfl rfl (by decide +kernel)
set_option maxRecDepth 65536 in
theorem w_c4 : (Jvm.Cond.code ({ cls := "java/util/Arrays", name := "hashCode", desc := "([I)I" } : Jvm.MethodName) jdk_65_method_150_code (1 : Nat) (Option.some Jvm.ClassFile.FieldType.int)).before args0 about1 = true := code_word (m := ⟨3, 1⟩) (meth := k3m1) (c := k3c1) (by decide +kernel) rfl rfl rfl (by decide +kernel)
set_option maxRecDepth 65536 in
theorem w_c5 : (Jvm.Cond.code ({ cls := "com/example/postil/postil/domain/Conjunction", name := "holdsAll", desc := "(Lcom/example/postil/postil/domain/Conjunction;)Z" } : Jvm.MethodName) prog_38_method_6_code (7 : Nat) (Option.some Jvm.ClassFile.FieldType.boolean)).before args0 about1 = true := code_word (m := ⟨2, 1⟩) (meth := k2m1) (c := k2c1) (by decide +kernel) rfl rfl rfl (by decide +kernel)
set_option maxRecDepth 65536 in
theorem w_c6 : (Jvm.Cond.code ({ cls := "jdk/internal/util/ArraysSupport", name := "vectorizedHashCode", desc := "(Ljava/lang/Object;IIII)I" } : Jvm.MethodName) jdk_48_method_4_code (5 : Nat) (Option.some Jvm.ClassFile.FieldType.int)).before args0 about1 = true := code_word (m := ⟨4, 1⟩) (meth := k4m1) (c := k4c1) (by decide +kernel) rfl rfl rfl (by decide +kernel)
set_option maxRecDepth 65536 in
theorem w_c7 : (Jvm.Cond.code ({ cls := "jdk/internal/util/ArraysSupport", name := "hashCode", desc := "(I[III)I" } : Jvm.MethodName) jdk_48_method_9_code (6 : Nat) (Option.some Jvm.ClassFile.FieldType.int)).before args0 about1 = true := code_word (m := ⟨4, 2⟩) (meth := k4m2) (c := k4c2) (by decide +kernel) rfl rfl rfl (by decide +kernel)
def codes1 : List Jvm.Cond := [Jvm.Cond.code x code maxLocals ret, Jvm.Cond.code ({ cls := "com/example/postil/postil/domain/ConjunctionHoldsAllPinLaw", name := "build", desc := "(IIIII)[I" } : Jvm.MethodName) method_3_code (8 : Nat) (Option.some (Jvm.ClassFile.FieldType.array Jvm.ClassFile.FieldType.int)), Jvm.Cond.code ({ cls := "com/example/postil/postil/domain/Conjunction", name := "<init>", desc := "([I)V" } : Jvm.MethodName) prog_38_method_1_code (2 : Nat) (Option.none : Option Jvm.ClassFile.FieldType), Jvm.Cond.code ({ cls := "java/lang/Object", name := "<init>", desc := "()V" } : Jvm.MethodName) object_method_1_code (1 : Nat) (Option.none : Option Jvm.ClassFile.FieldType), Jvm.Cond.code ({ cls := "java/util/Arrays", name := "hashCode", desc := "([I)I" } : Jvm.MethodName) jdk_65_method_150_code (1 : Nat) (Option.some Jvm.ClassFile.FieldType.int), Jvm.Cond.code ({ cls := "com/example/postil/postil/domain/Conjunction", name := "holdsAll", desc := "(Lcom/example/postil/postil/domain/Conjunction;)Z" } : Jvm.MethodName) prog_38_method_6_code (7 : Nat) (Option.some Jvm.ClassFile.FieldType.boolean), Jvm.Cond.code ({ cls := "jdk/internal/util/ArraysSupport", name := "vectorizedHashCode", desc := "(Ljava/lang/Object;IIII)I" } : Jvm.MethodName) jdk_48_method_4_code (5 : Nat) (Option.some Jvm.ClassFile.FieldType.int), Jvm.Cond.code ({ cls := "jdk/internal/util/ArraysSupport", name := "hashCode", desc := "(I[III)I" } : Jvm.MethodName) jdk_48_method_9_code (6 : Nat) (Option.some Jvm.ClassFile.FieldType.int)]
set_option maxRecDepth 65536 in
theorem codes_eq : words1.filter isCode = codes1 := rfl
theorem w_codes : ∀ c ∈ words1.filter isCode, c.before args0 about1 = true := by
  rw [codes_eq]
  intro c hc
  simp only [codes1, List.mem_cons, List.not_mem_nil, or_false] at hc
  rcases hc with rfl | rfl | rfl | rfl | rfl | rfl | rfl | rfl
  · exact w_c0
  · exact w_c1
  · exact w_c2
  · exact w_c3
  · exact w_c4
  · exact w_c5
  · exact w_c6
  · exact w_c7
set_option maxRecDepth 65536 in
theorem w_t1 : (words1.take 24).all (fun c => isCode c || c.before args0 about1) = true := by decide +kernel
set_option maxRecDepth 65536 in
theorem w_t2 : (words1.drop 24).all (fun c => isCode c || c.before args0 about1) = true := by decide +kernel
theorem w_tables : (allAtoms (Jvm.Cond.code x code maxLocals ret :: tables_1)).before args0 about1 = true := by
  rw [allAtoms_all]
  show words1.all (fun c => c.before args0 about1) = true
  refine all_split ?_ w_codes
  rw [← List.take_append_drop 24 words1, List.all_append, w_t1, w_t2]
  rfl
set_option maxRecDepth 65536 in
theorem w_case : (Jvm.Cond.and given_1 narrow_1).before args0 about1 = true := by decide +kernel
theorem w_applies : (headSpec (Jvm.Cond.code x code maxLocals ret :: tables_1) room_1).applies x e0.platform about1 = true :=
  (Spec.applies_iff w_frames).mpr ⟨w_running, w_runnable, w_alone, w_named, w_hears, w_ripe, w_room, w_tables⟩
theorem atStart : AtStart classFile x code maxLocals ret World_1 tables_1 room_1 Calls_1 rest_1 Pre_1 launch0 p0 e0 about1 theMethod args0 below0 :=
  ⟨lists_1, trivial, launch0.admits_env _ _ _, launch0.least_env, fairChoices_fair.cas, fairChoices_fair.clock, w_frames, w_args, w_heap, w_applies, trivial, trivial, w_case⟩
end start1
theorem witness_1 : WitnessClaimed_1 := ⟨start1.p0, start1.e0, start1.about1, start1.theMethod, start1.args0, start1.below0, start1.atStart⟩
end Jvm.Pilot.@@N@@
