import JvmDerived
import JvmDerived.Pilot.@@N@@Statement
import JvmDerived.Pilot.@@N@@Code
set_option linter.unusedVariables false
set_option linter.unusedSimpArgs false
namespace Jvm.RoadKit
open Sem ClassFile Op Lib Jvm.Stand Jvm.Free Jvm.LawKit
section New
variable {p : Program} {l : Launch} {e : Env} {R : Room} {s : State} {m : MethodId} {args : Array Value} {below : List Frame} {meth : Method} {c : Code} {T : State} {locs : List Loc} {cells slots : Nat}
theorem retI (X : Stand p l e R s m args below meth c T locs cells slots) (hx : p.tables.exec = Jvm.exec) {pc : Nat} {Ls : Array Slot} {z : Int32} {rest : List Value} (hret : meth.sig.returnType = some .int) (hd : decode c.code pc = .ok (.ireturn, 1)) {fs : List Frame}
    (hl : ∀ (f : JFrame) (acts : List Action), f.method = m → f.locked = none → f.entered = [] → (doReturn e (T.setTop f) acts (some (.int z))).1 = T.setFrames fs) : Steps p.tables e below (T.setTop (mkF m pc Ls (.int z :: rest))) (T.setFrames fs) := by
  have hm' : T.vm.method? m = some meth := X.method'
  have hn : narrow .int (.int z) = .int z := rfl
  show Steps p.tables e below (T.setTop { method := m, pc := pc, locals := Ls, stack := _ :: rest, locked := none }) _
  jvm_step X.here [X.here.top, hx, hd, hm', hret, hn]
  first | (intro acts; rw [hl _ acts rfl rfl rfl]) | rw [hl _ _ rfl rfl rfl]
  exact Steps.refl _
end New
end Jvm.RoadKit
namespace Jvm.Pilot.@@N@@
open Jvm Jvm.ClassFile Sem Op Lib Jvm.Free Jvm.Stand Jvm.LawKit Jvm.RoadKit Bundle Jvm.Pilot.@@N@@.Jvm.D
theorem own_sta_keep {Z : State} {h h' : Heap} {C n d : String} {v : Value} {ws : List Addr} (F : Sta Z h C n d v) (K : Keep h h' ws) (q : ∀ x ∈ ws, ∃ cell : Cell, h[x]? = some cell ∧ cell.vm.isStatics = false) : Sta Z h' C n d v := by
  obtain ⟨cf, i, k, f, st, cell, h1, h2, h3, h4, h5, h6, h7⟩ := F
  refine ⟨cf, i, k, f, st, cell, h1, h2, h3, h4, K.2.1 st cell h5 (fun hm => ?_), h6, h7⟩
  obtain ⟨c2, e1, e2⟩ := q st hm
  cases h5.symm.trans e1
  rw [e2] at h6
  cases h6
theorem own_ns {Z : State} {h : Heap} {x : Addr} {C : String} (E : Exa Z h x C) : ∃ cell : Cell, h[x]? = some cell ∧ cell.vm.isStatics = false := by
  obtain ⟨cell, k, h1, -, -, h4, -⟩ := E
  exact ⟨cell, h1, h4⟩
def own_emp (w : Int32) : Int32 := if w = (0 : Int32) then (1 : Int32) else (0 : Int32)
def own_Cac (Z : State) (h : Heap) (C : String) (a : Addr) : Prop := ∃ cl : Cell, Arr Z h a cl (.object C) ∧ cl.slots.size = 256 ∧ ∀ k, k < 256 → ∃ x, cl.slots[k]? = some (.ref x) ∧ Exa Z h x C
theorem own_Cac.lt {Z : State} {h : Heap} {C : String} {a : Addr} (F : own_Cac Z h C a) : a < h.size := by obtain ⟨c, A, -⟩ := F; exact A.lt
theorem own_Cac.ext {Z : State} {h h' : Heap} {C : String} {a : Addr} (F : own_Cac Z h C a) (E : Ext h h') : own_Cac Z h' C a := by
  obtain ⟨c, A, n, q⟩ := F
  exact ⟨c, A.ext E, n, fun k hk => by obtain ⟨x, e1, e2⟩ := q k hk; exact ⟨x, e1, e2.ext E⟩⟩
theorem own_Cac.other {Z : State} {h h' : Heap} {C : String} {a b : Addr} {sl : Nat} {v : Value} (F : own_Cac Z h C a) (W : Wr h h' b sl v) (ne : a ≠ b) : own_Cac Z h' C a := by
  obtain ⟨c, A, n, q⟩ := F
  exact ⟨c, A.other W ne, n, fun k hk => by obtain ⟨x, e1, e2⟩ := q k hk; exact ⟨x, e1, e2.wr W⟩⟩
theorem own_Cac.keep {Z : State} {h h' : Heap} {C : String} {a : Addr} {ws : List Addr} (F : own_Cac Z h C a) (K : Keep h h' ws) (nin : a ∉ ws) : own_Cac Z h' C a := by
  obtain ⟨c, A, n, q⟩ := F
  exact ⟨c, ⟨K.2.1 a c A.1 nin, A.2⟩, n, fun k hk => by obtain ⟨x, e1, e2⟩ := q k hk; exact ⟨x, e1, e2.keep K⟩⟩
theorem own_Cac.start {args : Array Value} {s : State} {S n d C : String} {a : Addr} {X : Jvm.Cond} (ev : (Term.static S n d).eval args s none [] s = some (.ref a)) (h1 : (Jvm.Cond.arrayOf (Term.static S n d) (.object C)).before args s = true) (h2 : (Jvm.Cond.eq (Term.length (Term.static S n d)) (Term.int 256)).before args s = true)
    (h3 : (Jvm.Cond.all (Term.static S n d) (Jvm.Cond.and (Jvm.Cond.exactly (Term.elem (Term.static S n d) (Term.index 0)) C) X)).before args s = true) : own_Cac s s.heap C a := by
  obtain ⟨cl, A⟩ := Arr.start ev (Cond.before_iff.mp h1)
  have hat : s.arrayAt? a = some cl := A.fin (Vm.Alike.refl _)
  obtain ⟨hsz, hsize⟩ := IntBox.length_fwd h2 ev A.1 A.2.1 A.2.2
  have h256 : cl.slots.size = 256 := by
    have e : (cl.slots.size.toInt32).toInt = cl.slots.size := len_toInt hsz
    rw [hsize] at e
    have : ((256 : Int32)).toInt = 256 := by decide
    omega
  refine ⟨cl, A, h256, fun k hk => ?_⟩
  have hj := Cond.all_elim ev hat (Cond.before_iff.mp h3) k (by rw [h256]; exact hk)
  obtain ⟨k1, -⟩ := and_e hj
  obtain ⟨x, ex⟩ := exa_v k1
  have evk : (Term.static S n d).eval args s none [k] s = some (.ref a) := ev
  obtain ⟨hnn, hback⟩ := IntBox.place_nonneg k hk
  have hi : (Term.index 0).eval args s none [k] s = some (.int k.toInt32) := Term.index_eval _
  obtain ⟨-, hs⟩ := elem_in ex evk hi A.1
  rw [hback] at hs
  exact ⟨x, hs, exa_at ex k1⟩
def own_El (Z : State) (h : Heap) (a : Addr) (f : Nat → Value) : Prop := ∃ cl : Cell, Arr Z h a cl (.object "java/lang/Object") ∧ Ovr Z cl.cls "java/lang/Object" ∧ cl.slots.size = 17 ∧ (∀ i, i < 17 → cl.slots[i]? = some (f i)) ∧ ∀ i, i < 17 → f i = .null ∨ ∃ y, f i = .ref y ∧ Exa Z h y "java/lang/Integer"
theorem own_El.lt {Z : State} {h : Heap} {a : Addr} {f : Nat → Value} (F : own_El Z h a f) : a < h.size := by obtain ⟨c, A, -⟩ := F; exact A.lt
theorem own_El.ext {Z : State} {h h' : Heap} {a : Addr} {f : Nat → Value} (F : own_El Z h a f) (E : Ext h h') : own_El Z h' a f := by
  obtain ⟨c, A, O, n, q, r⟩ := F
  exact ⟨c, A.ext E, O, n, q, fun i hi => (r i hi).imp id fun ⟨y, e1, e2⟩ => ⟨y, e1, e2.ext E⟩⟩
theorem own_El.other {Z : State} {h h' : Heap} {a b : Addr} {f : Nat → Value} {sl : Nat} {v : Value} (F : own_El Z h a f) (W : Wr h h' b sl v) (ne : a ≠ b) : own_El Z h' a f := by
  obtain ⟨c, A, O, n, q, r⟩ := F
  exact ⟨c, A.other W ne, O, n, q, fun i hi => (r i hi).imp id fun ⟨y, e1, e2⟩ => ⟨y, e1, e2.wr W⟩⟩
theorem own_El.keep {Z : State} {h h' : Heap} {a : Addr} {f : Nat → Value} {ws : List Addr} (F : own_El Z h a f) (K : Keep h h' ws) (nin : a ∉ ws) : own_El Z h' a f := by
  obtain ⟨c, A, O, n, q, r⟩ := F
  exact ⟨c, ⟨K.2.1 a c A.1 nin, A.2⟩, O, n, q, fun i hi => (r i hi).imp id fun ⟨y, e1, e2⟩ => ⟨y, e1, e2.keep K⟩⟩
theorem own_nsE {Z : State} {h : Heap} {a : Addr} {f : Nat → Value} (F : own_El Z h a f) : ∃ cell : Cell, h[a]? = some cell ∧ cell.vm.isStatics = false := by
  obtain ⟨c, A, -⟩ := F; exact ⟨c, A.1, A.plain⟩
def own_up (f : Nat → Value) (k : Nat) (v : Value) (i : Nat) : Value := if i = k then v else f i
theorem own_El.set {Z : State} {h h' : Heap} {a : Addr} {f : Nat → Value} {k : Nat} {v : Value} (F : own_El Z h a f) (W : Wr h h' a k v) (hv : v = .null ∨ ∃ y, v = .ref y ∧ Exa Z h y "java/lang/Integer") : own_El Z h' a (own_up f k v) := by
  obtain ⟨c, A, O, n, q, r⟩ := F
  refine ⟨c.setSlot k v, A.same W, O, by rw [sz_set]; exact n, fun i hi => ?_, fun i hi => ?_⟩
  · unfold own_up
    by_cases e : i = k
    · subst e
      rw [if_pos rfl]
      simp [Cell.setSlot, n, hi]
    · rw [if_neg e, ← q i hi]
      simp [Cell.setSlot, Array.getElem?_setIfInBounds_ne (Ne.symm e)]
  · unfold own_up
    by_cases e : i = k
    · rw [if_pos e]; exact hv.imp id fun ⟨y, e1, e2⟩ => ⟨y, e1, e2.wr W⟩
    · rw [if_neg e]; exact (r i hi).imp id fun ⟨y, e1, e2⟩ => ⟨y, e1, e2.wr W⟩
theorem own_nat (k : Nat) (h : k < 100) : (Int32.ofNat k).toInt = k := Int32.toInt_ofNat_of_lt (by omega)
theorem own_cl {k : Nat} (hk : k < 100) : (Int32.ofNat k).toNatClampNeg = k := by
  have h := own_nat k hk
  show (Int32.ofNat k).toInt.toNat = k
  omega
theorem own_in {k : Nat} (hk : k < 17) {c : Cell} (S : c.slots.size = 17) : ¬ (Int32.ofNat k < 0 ∨ c.slots.size ≤ (Int32.ofNat k).toNatClampNeg) := by
  rw [own_cl (by omega), S, Int32.lt_iff_toInt_lt, own_nat k (by omega)]
  show ¬ ((k : Int) < 0 ∨ _)
  omega
theorem own_sto {Z : State} {h : Heap} {a y : Addr} {c : Cell} (A : Arr Z h a c (.object "java/lang/Object")) (O : Ovr Z c.cls "java/lang/Object") (I : Ins Z h y "java/lang/Object" true) : Sto Z h a (.ref y) := Sto.of A O I
def own_Dq (f : Nat → Value) (hd cn : Nat) : Prop := hd < 17 ∧ cn ≤ 4 ∧ ∀ i, i < 17 → ((f i = .null) ↔ ¬ ((i + 17 - hd) % 17 < cn))
theorem own_Dq.last {f : Nat → Value} {hd cn : Nat} (D : own_Dq f hd cn) (h : cn + 1 ≤ 4) (y : Addr) : own_Dq (own_up f ((hd + cn) % 17) (.ref y)) hd (cn + 1) := by
  obtain ⟨h1, h2, h3⟩ := D
  refine ⟨h1, h, fun i hi => ?_⟩
  unfold own_up
  by_cases e : i = (hd + cn) % 17
  · rw [if_pos e]
    constructor
    · intro q; cases q
    · intro q; exact absurd (by omega) q
  · rw [if_neg e, h3 i hi]; omega
theorem own_Dq.first {f : Nat → Value} {hd cn : Nat} (D : own_Dq f hd cn) (h : cn + 1 ≤ 4) (y : Addr) : own_Dq (own_up f ((hd + 16) % 17) (.ref y)) ((hd + 16) % 17) (cn + 1) := by
  obtain ⟨h1, h2, h3⟩ := D
  refine ⟨by omega, h, fun i hi => ?_⟩
  unfold own_up
  by_cases e : i = (hd + 16) % 17
  · rw [if_pos e]
    constructor
    · intro q; cases q
    · intro q; exact absurd (by omega) q
  · rw [if_neg e, h3 i hi]; omega
theorem own_Dq.poll {f : Nat → Value} {hd cm : Nat} (D : own_Dq f hd (cm + 1)) : own_Dq (own_up f hd .null) ((hd + 1) % 17) cm := by
  obtain ⟨h1, h2, h3⟩ := D
  refine ⟨by omega, by omega, fun i hi => ?_⟩
  unfold own_up
  by_cases e : i = hd
  · rw [if_pos e]
    constructor
    · intro _; omega
    · intro _; rfl
  · rw [if_neg e, h3 i hi]; omega
theorem own_Dq.zero {f : Nat → Value} (h : ∀ i, i < 17 → f i = .null) : own_Dq f 0 0 := ⟨by omega, by omega, fun i hi => ⟨fun _ => by omega, fun _ => h i hi⟩⟩
theorem own_inc {t : Nat} (h : t < 17) : (if ((Int32.ofNat t) + (1 : Int32)) < (17 : Int32) then ((Int32.ofNat t) + (1 : Int32)) else (0 : Int32)) = Int32.ofNat ((t + 1) % 17) := by
  have e : (Int32.ofNat t) + (1 : Int32) = Int32.ofNat (t + 1) := (Int32.ofNat_add t 1).symm
  have s : (17 : Int32).toInt = 17 := rfl
  rw [e]
  by_cases c : t + 1 < 17
  · rw [if_pos (by rw [Int32.lt_iff_toInt_lt, own_nat _ (by omega), s]; omega), Nat.mod_eq_of_lt c]
  · rw [if_neg (by rw [Int32.lt_iff_toInt_lt, own_nat _ (by omega), s]; omega), show (t + 1) % 17 = 0 by omega]; rfl
theorem own_dec {t : Nat} (h : t < 17) : (if ((Int32.ofNat t) + (-1 : Int32)) < (0 : Int32) then ((17 : Int32) - (1 : Int32)) else ((Int32.ofNat t) + (-1 : Int32))) = Int32.ofNat ((t + 16) % 17) := by
  have a := c_iadd (Int32.ofNat t) (-1 : Int32)
  have b := rng32 ((Int32.ofNat t) + (-1 : Int32))
  have s : (-1 : Int32).toInt = -1 := rfl
  have z : (0 : Int32).toInt = 0 := rfl
  rw [own_nat t (by omega), s] at a
  apply Int32.toInt_inj.mp
  rw [own_nat _ (by omega)]
  by_cases c : ((Int32.ofNat t) + (-1 : Int32)) < (0 : Int32)
  · rw [if_pos c]
    rw [Int32.lt_iff_toInt_lt, z] at c
    rw [show (t + 16) % 17 = 16 by omega]; rfl
  · rw [if_neg c]
    rw [Int32.lt_iff_toInt_lt, z] at c
    omega
theorem own_sub {hd cn : Nat} (h : hd < 17) (c4 : cn ≤ 4) : (if ((Int32.ofNat ((hd + cn) % 17)) - (Int32.ofNat hd)) < (0 : Int32) then (((Int32.ofNat ((hd + cn) % 17)) - (Int32.ofNat hd)) + (17 : Int32)) else ((Int32.ofNat ((hd + cn) % 17)) - (Int32.ofNat hd))) = Int32.ofNat cn := by
  have a := c_isub (Int32.ofNat ((hd + cn) % 17)) (Int32.ofNat hd)
  have b := rng32 ((Int32.ofNat ((hd + cn) % 17)) - (Int32.ofNat hd))
  have z : (0 : Int32).toInt = 0 := rfl
  have s : (17 : Int32).toInt = 17 := rfl
  rw [own_nat _ (by omega), own_nat _ (by omega)] at a
  apply Int32.toInt_inj.mp
  rw [own_nat cn (by omega)]
  by_cases c : ((Int32.ofNat ((hd + cn) % 17)) - (Int32.ofNat hd)) < (0 : Int32)
  · rw [if_pos c]
    rw [Int32.lt_iff_toInt_lt, z] at c
    have d := c_iadd ((Int32.ofNat ((hd + cn) % 17)) - (Int32.ofNat hd)) (17 : Int32)
    have e := rng32 (((Int32.ofNat ((hd + cn) % 17)) - (Int32.ofNat hd)) + (17 : Int32))
    rw [s] at d
    omega
  · rw [if_neg c]
    rw [Int32.lt_iff_toInt_lt, z] at c
    omega
theorem own_ne17 {a b : Nat} (ha : a < 17) (hb : b < 17) (h : a ≠ b) : ¬ (Int32.ofNat a = Int32.ofNat b) := by
  rw [← Int32.toInt_inj, own_nat _ (by omega), own_nat _ (by omega)]; omega
def own_V (Z : State) (h : Heap) (v : Value) : Prop := v = .null ∨ ∃ y, v = .ref y ∧ Exa Z h y "java/lang/Integer"
theorem own_V.ext {Z : State} {h h' : Heap} {v : Value} (q : own_V Z h v) (E : Ext h h') : own_V Z h' v := q.imp id fun ⟨y, e1, e2⟩ => ⟨y, e1, e2.ext E⟩
theorem own_V.wr {Z : State} {h h' : Heap} {v w : Value} {b : Addr} {sl : Nat} (q : own_V Z h v) (W : Wr h h' b sl w) : own_V Z h' v := q.imp id fun ⟨y, e1, e2⟩ => ⟨y, e1, e2.wr W⟩
theorem own_V.keep {Z : State} {h h' : Heap} {v : Value} {ws : List Addr} (q : own_V Z h v) (K : Keep h h' ws) : own_V Z h' v := q.imp id fun ⟨y, e1, e2⟩ => ⟨y, e1, e2.keep K⟩
def own_Ob (Z : State) (h : Heap) (a : Addr) (n : Nat) : Prop := n < 100 ∧ ∃ (cl : Cell) (f : Nat → Value), Arr Z h a cl (.object "java/lang/Object") ∧ Ovr Z cl.cls "java/lang/Object" ∧ cl.slots.size = n ∧ (∀ i, i < n → cl.slots[i]? = some (f i)) ∧ ∀ i, i < n → own_V Z h (f i)
theorem own_Ob.lt {Z : State} {h : Heap} {a : Addr} {n : Nat} (F : own_Ob Z h a n) : a < h.size := by obtain ⟨-, c, f, A, -⟩ := F; exact A.lt
theorem own_Ob.ext {Z : State} {h h' : Heap} {a : Addr} {n : Nat} (F : own_Ob Z h a n) (E : Ext h h') : own_Ob Z h' a n := by
  obtain ⟨b, c, f, A, O, n, q, r⟩ := F
  exact ⟨b, c, f, A.ext E, O, n, q, fun i hi => (r i hi).ext E⟩
theorem own_Ob.other {Z : State} {h h' : Heap} {a b : Addr} {n sl : Nat} {v : Value} (F : own_Ob Z h a n) (W : Wr h h' b sl v) (ne : a ≠ b) : own_Ob Z h' a n := by
  obtain ⟨b, c, f, A, O, n, q, r⟩ := F
  exact ⟨b, c, f, A.other W ne, O, n, q, fun i hi => (r i hi).wr W⟩
theorem own_Ob.keep {Z : State} {h h' : Heap} {a : Addr} {n : Nat} {ws : List Addr} (F : own_Ob Z h a n) (K : Keep h h' ws) (nin : a ∉ ws) : own_Ob Z h' a n := by
  obtain ⟨b, c, f, A, O, n, q, r⟩ := F
  exact ⟨b, c, f, ⟨K.2.1 a c A.1 nin, A.2⟩, O, n, q, fun i hi => (r i hi).keep K⟩
theorem own_nsO {Z : State} {h : Heap} {a : Addr} {n : Nat} (F : own_Ob Z h a n) : ∃ cell : Cell, h[a]? = some cell ∧ cell.vm.isStatics = false := by
  obtain ⟨-, c, f, A, -⟩ := F; exact ⟨c, A.1, A.plain⟩
theorem own_El.ob {Z : State} {h : Heap} {a : Addr} {f : Nat → Value} (F : own_El Z h a f) : own_Ob Z h a 17 := by
  obtain ⟨c, A, O, n, q, r⟩ := F
  exact ⟨by omega, c, f, A, O, n, q, r⟩
theorem own_nn {k : Nat} (hk : k < 100) : ¬ (Int32.ofNat k < 0) := by
  rw [Int32.lt_iff_toInt_lt, own_nat k hk]
  show ¬ ((k : Int) < 0)
  omega
theorem own_El.new {Z : State} {h : Heap} {a : Addr} {cA : ClassId} (A : Arr Z h a (newA cA (.object "java/lang/Object") (17 : Int32)) (.object "java/lang/Object")) (O : Ovr Z cA "java/lang/Object") : own_El Z h a (fun _ => .null) :=
  ⟨_, A, O, by rw [sz_new]; rfl, fun i hi => by
    have : (17 : Int32).toNatClampNeg = 17 := rfl
    simp [newA, this, hi, defaultValue], fun i hi => Or.inl rfl⟩
theorem own_Ob.new {Z : State} {h : Heap} {a : Addr} {cA : ClassId} {k : Nat} (hk : k < 100) (A : Arr Z h a (newA cA (.object "java/lang/Object") (Int32.ofNat k)) (.object "java/lang/Object")) (O : Ovr Z cA "java/lang/Object") : own_Ob Z h a k :=
  ⟨hk, _, fun _ => .null, A, O, by rw [sz_new, own_cl hk], fun i hi => by
    have := own_cl hk
    simp [newA, this, hi, defaultValue], fun i hi => Or.inl rfl⟩
theorem own_Ob.arv {Z : State} {h : Heap} {a : Addr} {n : Nat} (F : own_Ob Z h a n) : ∃ (k : ClassId) (vs : List Value), vs.length = n ∧ (∀ v ∈ vs, own_V Z h v) ∧ Ovr Z k "java/lang/Object" ∧ Arv Z h a k (.object "java/lang/Object") (Int32.ofNat n) vs .null := by
  obtain ⟨b, c, f, A, O, rfl, q, r⟩ := F
  refine ⟨c.cls, (List.range c.slots.size).map f, by simp, fun v hv => ?_, O, c, A, rfl, (own_cl b).symm, own_nn b, fun k hk => ?_, fun i hi => ?_⟩
  · obtain ⟨i, hi, rfl⟩ := List.mem_map.mp hv
    exact r i (List.mem_range.mp hi)
  · rw [q k hk]; simp [List.getD, hk]
  · have e : ((List.range c.slots.size).map f).getD i .null = f i := by simp [List.getD, hi]
    rw [e]
    rcases r i hi with z | ⟨y, z, -⟩ <;> rw [z] <;> rfl
theorem own_Ob.of {Z : State} {h : Heap} {a : Addr} {n : Nat} {k : ClassId} {vs : List Value} (hn : n < 100) (O : Ovr Z k "java/lang/Object") (hv : ∀ v ∈ vs, own_V Z h v) (A : Arv Z h a k (.object "java/lang/Object") (Int32.ofNat n) vs .null) : own_Ob Z h a n := by
  obtain ⟨c, A, rfl, S, -, H, -⟩ := A
  rw [own_cl hn] at S
  refine ⟨hn, c, fun i => vs.getD i .null, A, O, S, fun i hi => H i (by omega), fun i hi => ?_⟩
  show own_V Z h (vs.getD i .null)
  rw [List.getD_eq_getElem?_getD]
  cases e : vs[i]? with
  | none => exact Or.inl rfl
  | some v => exact hv v (List.mem_of_getElem? e)
theorem own_stol {Z : State} {h : Heap} {b : Addr} {k : ClassId} {z : Int32} {vd : List Value} {dd : Value} (B : Arv Z h b k (.object "java/lang/Object") z vd dd) (O : Ovr Z k "java/lang/Object") {a0 : Array Value} (w : (Jvm.Cond.castable "java/lang/Integer" "java/lang/Object").before a0 Z = true) :
    ∀ (us : List Value), (∀ v ∈ us, own_V Z h v) → StoL Z h b us
  | [], _ => trivial
  | v :: r, q => ⟨by
      obtain ⟨c, A, e, -⟩ := B
      rcases q v (List.mem_cons_self ..) with rfl | ⟨y, rfl, E⟩
      · exact Or.inl rfl
      · exact Sto.ofV A e O (Ins.of_exa E w), own_stol B O w r fun x hx => q x (List.mem_cons_of_mem _ hx)⟩
section Own
variable {p : Program} {l : Launch} {e : Env} {R : Room} {s : State} {m : MethodId} {args : Array Value} {below : List Frame} {meth : Method} {c : Code} {T : State} {locs : List Loc} {cells slots : Nat} {Z : State} {h : Heap} {a0 : Array Value}
theorem own_cp (X : Stand p l e R s m args below meth c T locs cells slots) (hx : p.tables.exec = Jvm.exec) (hZ : Z.Warmed39 s.vm) {own : String} {index : Nat} (hown : s.vm.findClass own = some m.cls)
    (w1 : (Jvm.Cond.methodLink own index Jvm.Stand.acN).before a0 Z = true) (w2 : (Jvm.Cond.native Jvm.Stand.acN).before a0 Z = true) (w3 : (Jvm.Cond.static Jvm.Stand.acN).before a0 Z = true) (w4 : (Jvm.Cond.initialized "java/lang/System").before a0 Z = true) (w5 : (Jvm.Cond.castable "java/lang/Integer" "java/lang/Object").before a0 Z = true) (eT : T.heap = h)
    {a b : Addr} {na nb i j k : Nat} {sp dp nn : Int32} (A : own_Ob Z h a na) (B : own_Ob Z h b nb) (e1 : sp = Int32.ofNat i) (e2 : dp = Int32.ofNat j) (e3 : nn = Int32.ofNat k) (h4 : i + k ≤ na) (h5 : j + k ≤ nb) {n0 : Nat} (N : Fr n0 locs) (ge : n0 ≤ b)
    {g : JFrame} (hg : g.method = m) (hsize : g.locals.size = c.maxLocals) {rest : List Value} (hs : g.stack = .int nn :: .int dp :: .ref b :: .int sp :: .ref a :: rest) (hd : decode c.code g.pc = .ok (.invokestatic index, 3))
    (hf : 1 ≤ R.frames) {W : Nat} (hW : 2 * g.monitorRoom + (rest.map fun v => v.category).sum ≤ W) (hlo : W + (nativeFrameWords "java/lang/System" "arraycopy" 5 + 11) ≤ R.locals) :
    ∃ T' h' L, Stand p l e R s m args below meth c T' L cells slots ∧ T'.heap = h' ∧ Fr n0 L ∧ Keep h h' [b] ∧ own_Ob Z h' b nb ∧
      ∀ target, Steps p.tables e below (T'.setTop { g with pc := g.pc + 3, stack := rest }) target → Steps p.tables e below (T.setTop g) target := by
  subst e1 e2 e3
  have bA := A.1
  have bB := B.1
  obtain ⟨ka, va, la, qa, Oa, Aa⟩ := A.arv
  obtain ⟨kb, vb, lb, qb, Ob, Ab⟩ := B.arv
  have hu : ∀ v ∈ ((List.range (Int32.ofNat k).toNatClampNeg).map fun t => va.getD ((Int32.ofNat i).toNatClampNeg + t) .null), own_V Z h v := fun v hv => by
    obtain ⟨t, -, rfl⟩ := List.mem_map.mp hv
    rw [List.getD_eq_getElem?_getD]
    cases e : va[(Int32.ofNat i).toNatClampNeg + t]? with
    | none => exact Or.inl rfl
    | some v => exact qa v (List.mem_of_getElem? e)
  obtain ⟨T', h', L, X', eT', N', K, V', st⟩ := cpA X hx hZ hown w1 w2 w3 w4 eT Aa Ab (Or.inr ⟨rfl, rfl, own_stol Ab Ob w5 _ hu⟩) (own_nn (by omega)) (own_nn (by omega)) (own_nn (by omega))
    (by rw [own_cl (by omega), own_cl (by omega), own_cl (by omega)]; exact h4) (by rw [own_cl (by omega), own_cl (by omega), own_cl (by omega)]; exact h5) rfl (by rw [own_cl (by omega), own_cl (by omega)]; omega) N ge hg hsize hs hd hf hW hlo
  refine ⟨T', h', L, X', eT', N', K, own_Ob.of bB Ob (fun v hv => ?_) V', st⟩
  rcases List.mem_append.mp hv with hv | hv
  · rcases List.mem_append.mp hv with hv | hv
    · exact (qb v (List.mem_of_mem_take hv)).keep K
    · exact (hu v hv).keep K
  · exact (qb v (List.mem_of_mem_drop hv)).keep K
def own_Mi (Z : State) (C : String) (a : Addr) : Prop := (Term.mirror C).eval #[] Z none [] Z = some (.ref a)
theorem own_Mi.of {s : State} {C : String} (q : MirrorMade s C) : ∃ a, own_Mi s C a := by
  obtain ⟨c, k, a, h1, h2, h3⟩ := q
  exact ⟨a, by simp [own_Mi, Term.eval, h1, h2, h3]⟩
theorem own_ldc (X : Stand p l e R s m args below meth c T locs cells slots) (hx : p.tables.exec = Jvm.exec) (hZ : Z.Warmed39 s.vm) {own C : String} {index : Nat} {a : Addr} (hown : s.vm.findClass own = some m.cls)
    (w : (Jvm.Cond.classLink own index C).before a0 Z = true) (M : own_Mi Z C a) (eT : T.heap = h) {g : JFrame} (hg : g.method = m) (hd : decode c.code g.pc = .ok (.ldc index, 2)) :
    ∃ T', Stand p l e R s m args below meth c T' locs cells slots ∧ T'.heap = h ∧ ∀ target, Steps p.tables e below (T'.setTop { g with pc := g.pc + 2, stack := .ref a :: g.stack }) target → Steps p.tables e below (T.setTop g) target := by
  obtain ⟨vm', X', st⟩ := X.ldcMirror hx hown (mvT hZ w) (Jvm.Free.ULB.mirror_move hZ.alike M) hg hd
  exact ⟨_, X', eT, st⟩
theorem own_gc (X : Stand p l e R s m args below meth c T locs cells slots) (hx : p.tables.exec = Jvm.exec) (hZ : Z.Warmed39 s.vm) {own C : String} {index count : Nat} {a b : Addr} (hown : s.vm.findClass own = some m.cls)
    (w1 : (Jvm.Cond.methodLink own index ⟨"java/util/Collection", "getClass", "()Ljava/lang/Class;"⟩).before a0 Z = true) (w2 : (Jvm.Cond.declares Jvm.Stand.gcN).before a0 Z = true) (w3 : (Jvm.Cond.interfaceMethod "java/util/Collection" "java/lang/Object" "getClass" "()Ljava/lang/Class;").before a0 Z = true)
    (w4 : (Jvm.Cond.selects C ⟨"java/util/Collection", "getClass", "()Ljava/lang/Class;"⟩ Jvm.Stand.gcN).before a0 Z = true) (w5 : (Jvm.Cond.instanceMethod Jvm.Stand.gcN).before a0 Z = true) (w6 : (Jvm.Cond.publicMethod Jvm.Stand.gcN).before a0 Z = true)
    (w7 : (Jvm.Cond.unhidden C "getClass" "()Ljava/lang/Class;").before a0 Z = true) (w8 : (Jvm.Cond.castable C "java/util/Collection").before a0 Z = true) (w9 : (Jvm.Cond.native Jvm.Stand.gcN).before a0 Z = true)
    (E : Exa Z h b C) (M : own_Mi Z C a) (eT : T.heap = h) {g : JFrame} (hg : g.method = m) (hsize : g.locals.size = c.maxLocals) {rest : List Value} (hs : g.stack = .ref b :: rest) (hd : decode c.code g.pc = .ok (.invokeinterface index count, 5))
    (hf : 1 ≤ R.frames) (hlo : 2 * g.monitorRoom + (rest.map fun v => v.category).sum + (nativeFrameWords "java/lang/Object" "getClass" 1 + 11) ≤ R.locals) :
    ∃ T', Stand p l e R s m args below meth c T' locs cells slots ∧ T'.heap = h ∧ ∀ target, Steps p.tables e below (T'.setTop { g with pc := g.pc + 5, stack := .ref a :: rest }) target → Steps p.tables e below (T.setTop g) target := by
  obtain ⟨cB, kB, i1, i2, i3⟩ := isOf hZ eT E
  have M' : (Term.mirror C).eval args s none [] s = some (.ref a) := Jvm.Free.ULB.mirror_move hZ.alike M
  obtain ⟨c2, k2, a2, j1, j2, j3, j4⟩ := Term.mirror_spec M'
  cases i1.symm.trans j1
  cases i2.symm.trans j2
  cases j4
  obtain ⟨vm', X', st⟩ := X.getClassOfI hx hown (mvT hZ w1) (mvT hZ w2) (Jvm.Free.ULB.iface_rides hZ.alike w3) (mvT hZ w4) (mvT hZ w5) (mvT hZ w6) (mvT hZ w7) (mvT hZ w8) (mvT hZ w9) (by decide) (by decide) rfl rfl i1 i2 i3 j3 hg hsize hs hd hf hlo
  exact ⟨_, X', eT, st⟩
end Own
theorem own_lt {a b : Nat} (ha : a < 100) (hb : b < 100) : (Int32.ofNat a < Int32.ofNat b) ↔ a < b := by
  rw [Int32.lt_iff_toInt_lt, own_nat a ha, own_nat b hb]; omega
theorem own_sub2 {a b : Nat} (h : b ≤ a) (ha : a < 100) : Int32.ofNat a - Int32.ofNat b = Int32.ofNat (a - b) := by
  have x := c_isub (Int32.ofNat a) (Int32.ofNat b)
  have y := rng32 (Int32.ofNat a - Int32.ofNat b)
  rw [own_nat a ha, own_nat b (by omega)] at x
  apply Int32.toInt_inj.mp
  rw [own_nat (a - b) (by omega)]
  omega
theorem own_s17 {a : Nat} (h : a < 17) : (17 : Int32) - Int32.ofNat a = Int32.ofNat (17 - a) := own_sub2 (a := 17) (b := a) (by omega) (by omega)
theorem own_a0 (a : Nat) : Int32.ofNat a + (0 : Int32) = Int32.ofNat a := (Int32.ofNat_add a 0).symm
theorem own_a17 (a : Nat) : Int32.ofNat a + (17 : Int32) = Int32.ofNat (a + 17) := (Int32.ofNat_add a 17).symm
theorem own_min {a b : Nat} (ha : a < 100) (hb : b < 100) : (if Int32.ofNat b < Int32.ofNat a then Int32.ofNat b else Int32.ofNat a) = Int32.ofNat (min a b) := by
  by_cases q : b < a
  · rw [if_pos ((own_lt hb ha).mpr q), Nat.min_eq_right (by omega)]
  · rw [if_neg (fun z => q ((own_lt hb ha).mp z)), Nat.min_eq_left (by omega)]
theorem own_Dq.some {Z : State} {h : Heap} {a : Addr} {f : Nat → Value} {hd cn : Nat} (D : own_Dq f hd cn) (F : own_El Z h a f) (hc : 0 < cn) : ∃ y, f hd = .ref y := by
  obtain ⟨h1, h2, h3⟩ := D
  obtain ⟨c, -, -, -, -, r⟩ := F
  rcases r hd h1 with z | ⟨y, z, -⟩
  · exact absurd ((h3 hd h1).mp z) (by omega)
  · exact ⟨y, z⟩
theorem own_Dq.none {f : Nat → Value} {hd cn : Nat} (D : own_Dq f hd cn) (hc : cn = 0) : f hd = .null := (D.2.2 hd D.1).mpr (by omega)
theorem own_Dq.pop {f : Nat → Value} {hd cn : Nat} (D : own_Dq f hd cn) (hc : 0 < cn) : own_Dq (own_up f hd .null) ((hd + 1) % 17) (cn - 1) := by
  obtain ⟨k, rfl⟩ : ∃ k, cn = k + 1 := ⟨cn - 1, by omega⟩
  exact D.poll
theorem own_nx0 {n : Nat} (h : n = 0) : (if (0 : Int32) < (Int32.ofNat n) then ((Int32.ofNat n) - (1 : Int32)) else (0 : Int32)) = Int32.ofNat n := by subst h; decide
theorem own_nx1 {n : Nat} (h : 0 < n) (q : n < 100) : (if (0 : Int32) < (Int32.ofNat n) then ((Int32.ofNat n) - (1 : Int32)) else (0 : Int32)) = Int32.ofNat (n - 1) := by
  rw [if_pos (show (0 : Int32) < Int32.ofNat n from (own_lt (a := 0) (by omega) q).mpr h)]
  exact own_sub2 (a := n) (b := 1) h q
theorem own_clr1 {f : Nat → Value} {hd cn : Nat} (D : own_Dq f hd cn) (h : hd + cn < 17) : ∀ i, i < 17 → (fun j => if hd ≤ j ∧ j < hd + cn then Value.null else f j) i = Value.null := by
  intro i hi
  show (if hd ≤ i ∧ i < hd + cn then Value.null else f i) = Value.null
  split
  · rfl
  · obtain ⟨h1, h2, h3⟩ := D
    exact (h3 i hi).mpr (by omega)
theorem own_clr2 {f : Nat → Value} {hd cn : Nat} (D : own_Dq f hd cn) (h : 17 ≤ hd + cn) : ∀ i, i < 17 → (fun j => if 0 ≤ j ∧ j < 0 + ((hd + cn) % 17) then Value.null else (fun j => if hd ≤ j ∧ j < hd + (17 - hd) then Value.null else f j) j) i = Value.null := by
  intro i hi
  show (if 0 ≤ i ∧ i < 0 + ((hd + cn) % 17) then Value.null else (if hd ≤ i ∧ i < hd + (17 - hd) then Value.null else f i)) = Value.null
  split
  · rfl
  · split
    · rfl
    · obtain ⟨h1, h2, h3⟩ := D
      exact (h3 i hi).mpr (by omega)
theorem own_sint {args : Array Value} {s : State} {t : Term} {z : Int32} (h : (Jvm.Cond.eq t (Term.int z)).value args s none s [] = some true) : t.eval args s none [] s = some (.int z) := by
  obtain ⟨u, w, e1, e2, k1, k2⟩ := cmp_v (Or.inl h)
  rw [Term.int_eval] at e2
  cases e2
  obtain ⟨y, rfl⟩ := k2
  have q : y = z := by
    simp only [Cond.value, e1, Term.int_eval] at h
    simpa using h
  subst q
  exact e1
theorem own_El.cong {Z : State} {h : Heap} {a : Addr} {f g : Nat → Value} (F : own_El Z h a f) (e : ∀ i, f i = g i) : own_El Z h a g := by
  have : f = g := funext e
  subst this; exact F
theorem own_dec2 {t : Nat} (h : t < 17) : (if ((Int32.ofNat t) + (-1 : Int32)) < (0 : Int32) then (16 : Int32) else ((Int32.ofNat t) + (-1 : Int32))) = Int32.ofNat ((t + 16) % 17) := by
  rw [show (16 : Int32) = (17 : Int32) - (1 : Int32) from rfl]
  exact own_dec h
/-- what the word methodLink holds, taken apart -/
theorem own_unlink {s : State} {args : Array Value} {cls : String} {x : MethodName} {index d c : Nat} {mf : MethodId} (hd : s.vm.findClass cls = some d) (hc : s.vm.findClass x.cls = some c) (hf : s.methodFound? x.cls x.name x.desc = some mf) (hn : x.name ≠ "clone") (h : (Jvm.Cond.methodLink cls index x).before args s = true) :
    ∃ ci via dk ck mk mt, s.memberEntry? cls index = some (ci, via) ∧ s.classLinks cls ci x.cls = some true ∧ s.vm.classes[d]? = some dk ∧ s.vm.classes[c]? = some ck ∧ s.vm.classes[mf.cls]? = some mk ∧ s.vm.method? mf = some mt ∧ s.names cls index (.method x.cls x.name x.desc) = true ∧ s.openOr cls index (.method mf) = true ∧ ck.isInterface = via ∧ mk.loader = none ∧ s.vm.Plain mt.accessFlags mf.cls mk c d dk := by
  have q := Cond.before_iff.mp h
  rw [Cond.value, hd, hc, hf] at q
  rcases e0 : s.memberEntry? cls index with _ | ⟨ci, via⟩ <;> rw [e0] at q
  · cases q
  obtain ⟨lk, e1, q⟩ := Option.bind_eq_some_iff.mp q
  obtain ⟨dk, e2, q⟩ := Option.bind_eq_some_iff.mp q
  obtain ⟨ck, e3, q⟩ := Option.bind_eq_some_iff.mp q
  obtain ⟨mk, e4, q⟩ := Option.bind_eq_some_iff.mp q
  obtain ⟨mt, e5, q⟩ := Option.bind_eq_some_iff.mp q
  have q := Option.some.inj q
  have hna : (x.name == "clone") = false := beq_eq_false_iff_ne.mpr hn
  rw [hna, Bool.and_false, Bool.false_and, Bool.or_false] at q
  obtain ⟨q, p8⟩ := Bool.and_eq_true_iff.mp q
  obtain ⟨q, p7⟩ := Bool.and_eq_true_iff.mp q
  obtain ⟨q, -⟩ := Bool.and_eq_true_iff.mp q
  obtain ⟨q, -⟩ := Bool.and_eq_true_iff.mp q
  obtain ⟨q, p4⟩ := Bool.and_eq_true_iff.mp q
  obtain ⟨q, p3⟩ := Bool.and_eq_true_iff.mp q
  obtain ⟨p1, p2⟩ := Bool.and_eq_true_iff.mp q
  exact ⟨ci, via, dk, ck, mk, mt, rfl, by rw [e1, p1], e2, e3, e4, e5, p2, p3, eq_of_beq p4, Option.isNone_iff_eq_none.mp p7, by simpa [Vm.Plain, plainAccess, or_assoc, and_assoc] using p8⟩
/-- an entry that is an interface's: the pool's own row -/
theorem own_row {s : State} {cls : String} {index ci d : Nat} {c n t : String} (hd : s.vm.findClass cls = some d) (h1 : s.memberEntry? cls index = some (ci, true)) (h2 : s.names cls index (.method c n t) = true) :
    ∃ dk cf nt, s.vm.classes[d]? = some dk ∧ dk.cf = some cf ∧ s.poolOf? cls = some cf.constantPool ∧ namesOf? cf.constantPool index = some (.method c n t) ∧ cf.constantPool[index]? = some (.interfaceMethodref ci nt) ∧ cf.constantPool.nameAndType? nt = some (n, t) := by
  obtain ⟨cp, a1, a2⟩ := State.names_spec h2
  obtain ⟨dk, cf, b1, b2, rfl⟩ := State.poolOf?_spec hd a1
  obtain ⟨cj, nt, a3, a4, -⟩ := namesOf?_method a2
  rcases a3 with a3 | a3
  · simp [State.memberEntry?, a1, a3] at h1
  · obtain rfl : cj = ci := by simpa [State.memberEntry?, a1, a3] using h1
    exact ⟨dk, cf, nt, b1, b2, a1, a2, a3, a4⟩
theorem own_links {s : State} {args : Array Value} {cls : String} {x : MethodName} {index d c : Nat} {ck : Class} {mf : MethodId} (hd : s.vm.findClass cls = some d) (hc : s.vm.findClass x.cls = some c) (hck : s.vm.classes[c]? = some ck) (hvi : ck.isInterface = true) (hp : ∀ y, signaturePolymorphic ck y = false) (h0 : ck.findMethod x.name x.desc = none)
    (hf : s.methodFound? x.cls x.name x.desc = some mf) (hn : x.name ≠ "clone") (h : (Jvm.Cond.methodLink cls index x).before args s = true) (pl : Platform) (hpl : pl.magicAccessors = ({} : Platform).magicAccessors) : ∃ ci, s.vm.MethodLinksFF pl d index ci c mf ∧ s.rightAt d index (.method mf) = true := by
  obtain ⟨ci, via, dk, ck', mk, mt, g1, g2, g3, g4, g5, g6, g7, g8, g9, g10, g11⟩ := own_unlink hd hc hf hn h
  cases hck.symm.trans g4
  rw [hvi] at g9
  subst g9
  obtain ⟨dk', cf, nt, r1, r2, r3, r4, r5, r6⟩ := own_row hd g1 g7
  cases g3.symm.trans r1
  obtain ⟨c', l1, l2⟩ := State.classLinks_spec hd g2 pl hpl
  cases hc.symm.trans l1
  obtain ⟨dk2, cf2, nm2, ck2, k1, k2, k3, k4, -⟩ := id l2.here
  cases g3.symm.trans k1
  cases r2.symm.trans k2
  refine ⟨ci, ⟨dk, cf, nt, _, _, ck, mk, mt, g3, r2, r5, r6, l2, fun z => ?_, hck, hvi, hp, h0, State.faceFind_of_found hc hck hvi hp h0 hf, g5, by simpa [Vm.method?, g5] using g6, k3.trans g10.symm, g11, State.openOr_spec hd g3 g8⟩, by simp [State.rightAt, g3, r2, r4, hf]⟩
  rw [z] at k4
  simp [ConstantPool.className?, r5] at k4
/-- one step: an interface's entry, linked (MethodLinksFF) and not yet read, at an object whose class answers -/
theorem own_fstep {p : Program} {l : Launch} {e : Env} {R : Room} {s : State} {m : MethodId} {args : Array Value} {below : List Frame} {meth : Method} {c : Code} {T : State} {locs : List Loc} {cells slots : Nat}
    (X : Stand p l e R s m args below meth c T locs cells slots) (hx : p.tables.exec = Jvm.exec) {index count ci cI : Nat} {r0 mk : MethodId} {r km : Method} {a : Addr} {cell : Cell} {kc : Class} (hl : s.vm.MethodLinksFF e.platform m.cls index ci cI r0) (hr : s.rightAt m.cls index (.method r0) = true)
    (h1 : s.vm.method? r0 = some r) (h2 : r.isStatic = false) (h3 : T.heap[a]? = some cell) (h4 : cell.vm.isStatics = false) (h5 : s.vm.classes[cell.cls]? = some kc) (h6 : s.vm.assignable cell.cls cI = true) (h7 : selectMethod e.platform s.vm cell.cls r0 = .method mk) (h8 : s.vm.method? mk = some km)
    (h9 : ((cell.cls :: s.vm.superclasses cell.cls).any fun k => (declaredIn s.vm r.name r.desc k).any fun (_, z) => z.isPrivate || z.isStatic) = false) (h10 : hasFlag km.accessFlags Acc.public_ = true) (h11 : km.isAbstract = false)
    {g : JFrame} (hg : g.method = m) {av rest : List Value} (hlen : av.length = r.sig.parameters.length) (hs : g.stack = av.reverse ++ .ref a :: rest) (hd : decode c.code g.pc = .ok (.invokeinterface index count, 5)) :
    ∃ vm', s.WarmedH vm' ∧ Stand p l e R s m args below meth c (T.setVm vm') locs cells slots ∧ ∀ target, (∀ acts, Steps p.tables e below (doInvoke e ((T.setVm vm').setTop { g with stack := rest }) acts mk (.ref a :: av).toArray).1 target) → Steps p.tables e below (T.setTop g) target := by
  have E := State.methodEntryFF X.warmed hl hr
  obtain ⟨dk, cf, nt, _, _, ck, _, _, a1, a2, a3, -, -, -, a4, a5, -⟩ := hl.here
  have al := E.warmed.alike
  obtain ⟨dk', b1, b2⟩ := al.2.2 _ _ a1
  obtain ⟨ck', b3, b4⟩ := al.2.2 _ _ a4
  obtain ⟨kc', b5, -⟩ := al.2.2 _ _ h5
  have a2' : dk'.cf = some cf := by rw [b2]; exact a2
  have a5' : ck'.isInterface = true := by rw [b4]; exact a5
  have w : (T.vm.calledUp m.cls ci index cI r0).method? r0 = some r ∧ (T.vm.calledUp m.cls ci index cI r0).assignable cell.cls cI = true ∧ selectMethod e.platform (T.vm.calledUp m.cls ci index cI r0) cell.cls r0 = .method mk ∧ (T.vm.calledUp m.cls ci index cI r0).method? mk = some km ∧ ((cell.cls :: (T.vm.calledUp m.cls ci index cI r0).superclasses cell.cls).any fun k => (declaredIn (T.vm.calledUp m.cls ci index cI r0) r.name r.desc k).any fun (_, z) => z.isPrivate || z.isStatic) = false := by
    refine ⟨al.method? _ ▸ h1, al.assignable _ _ ▸ h6, by rw [al.selectMethod]; exact h7, al.method? _ ▸ h8, ?_⟩
    simp only [al.superclasses, al.declaredIn]
    exact h9
  subst hg
  have cold := fun {Q E' d' acts'} => Op.invokeinterface.wp_coldFace (Q := Q) (E := E') (e := e) (d := d') (acts := acts') (s := T) (s₀ := s) (f := g) (count := count) X.here.top X.warmed E a1 a2 (Or.inr a3) a4 a5
  have warm := fun {Q E' d' acts'} => Op.invokeinterface.wp_named (Q := Q) (E := E') (e := e) (d := d') (acts := acts') (s := T.setVm (T.vm.calledUp g.method.cls ci index cI r0)) (f := g) (count := count) (args := av) (rest := rest) X.here.top ⟨dk', cf, ci, nt, b1, a2', Or.inr a3, E.classReady⟩ E.ready ⟨dk', cf, ci, nt, b1, a2', a3⟩ b3 a5' w.1 h2 hlen hs h3 (fun z q => by rw [q] at h4; cases h4) b5 w.2.1 w.2.2.1 w.2.2.2.1 w.2.2.2.2 h10 h11
  refine ⟨_, E.warmed, X.noted E.warmed, fun target k => ?_⟩
  jvm_step X.here [hx, hd, cold, warm]
  exact k
theorem own_face {p : Program} {l : Launch} {e : Env} {R : Room} {s : State} {m : MethodId} {args : Array Value} {below : List Frame} {meth : Method} {c : Code} {T : State} {locs : List Loc} {cells slots : Nat}
    (X : Stand p l e R s m args below meth c T locs cells slots) (hexec : p.tables.exec = Jvm.exec) {own C J : String} {index count : Nat} {xi y : MethodName}
    (hown : s.vm.findClass own = some m.cls) (hlink : (Jvm.Cond.methodLink own index xi).before args s = true) (hdecl : (Jvm.Cond.declares ⟨J, xi.name, xi.desc⟩).before args s = true) (hface : (Jvm.Cond.interfaceMethod xi.cls J xi.name xi.desc).before args s = true) (hxo : xi.cls ≠ J) (hncl : xi.name ≠ "clone")
    (hsel : (Jvm.Cond.selects C xi y).before args s = true) (hinst : (Jvm.Cond.instanceMethod y).before args s = true) (hpub : (Jvm.Cond.publicMethod y).before args s = true) (hunh : (Jvm.Cond.unhidden C xi.name xi.desc).before args s = true) (hcast : (Jvm.Cond.castable C xi.cls).before args s = true)
    (hx : xi.cls ≠ "java/lang/invoke/MethodHandle" ∧ xi.cls ≠ "java/lang/invoke/VarHandle") {W : Nat} {Pre : Pt → Array Value → Prop} {Post : Pt → Array Value → Option Value → Pt → Prop} (hK : Back l R p e below s args y 5 W Pre Post)
    {b : Addr} {cB : ClassId} {kB : Class} (hcB : s.vm.findClass C = some cB) (hkB : s.vm.classes[cB]? = some kB) (hrecv : IsOf cB T b) {g : JFrame} (hg : g.method = m) (hsize : g.locals.size = c.maxLocals) {s₀ : State} (hcome : Steps p.tables e below s₀ (T.setTop g)) {argsL rest : List Value}
    (hlen : ∀ sig, parseMethodDescriptor xi.desc = some sig → argsL.length = sig.parameters.length) (hstack : g.stack = argsL.reverse ++ .ref b :: rest) (hW : 2 * g.monitorRoom + (rest.map fun v => v.category).sum ≤ W)
    (hdg : decode c.code g.pc = .ok (.invokeinterface index count, 5)) (hpre : ∀ vm₁, s.WarmedH vm₁ → Pre ⟨T.setVm vm₁, locs, cells, slots⟩ (.ref b :: argsL).toArray) :
    ∃ (v : Option Value) (vm₁ : Vm) (B : Pt), s.WarmedH vm₁ ∧ Stand p l e R s m args below meth c B.U B.locs B.cells B.slots ∧ Post ⟨T.setVm vm₁, locs, cells, slots⟩ (.ref b :: argsL).toArray v B ∧ Steps p.tables e below s₀ (B.U.setTop { g with pc := g.pc + 5, stack := v.toList ++ rest }) := by
  -- the declarer's method, the interface that is named, the class's answer
  obtain ⟨r0, r, d1, d2, d3, d4⟩ := Cond.declares_spec hdecl
  obtain ⟨cI, kI, r0', f1, f2, f3, f4, f5⟩ := Cond.interfaceMethod_spec hface
  obtain rfl := Option.some.inj (d1.symm.trans f5)
  obtain ⟨cS, rS, mk, t1, t2, t3, t4, -⟩ := Cond.selects_spec hsel
  obtain rfl := Option.some.inj (f4.symm.trans t2)
  obtain ⟨mk', km, u1, u2, -, u3⟩ := Cond.instanceMethod_spec hinst
  obtain rfl := Option.some.inj (t3.symm.trans u1)
  obtain ⟨cC, cT, v1, v2, v3⟩ := Cond.castable_spec hcast
  obtain ⟨cell, o1, rfl, o2⟩ := hrecv
  obtain rfl := Option.some.inj (hcB.symm.trans t1)
  obtain rfl := Option.some.inj (hcB.symm.trans v1)
  obtain rfl := Option.some.inj (f1.symm.trans v2)
  -- the named interface doesn't declare it itself
  obtain ⟨kI', j1, j2⟩ := Vm.findClass_spec f1
  obtain rfl := Option.some.inj (f2.symm.trans j1)
  obtain ⟨kJ, j3, j4⟩ := className_of_methodNamed d1
  have poly : ∀ z, signaturePolymorphic kI z = false := fun z => by simp [signaturePolymorphic, j2, hx.1, hx.2]
  have none0 : kI.findMethod xi.name xi.desc = none := Option.eq_none_iff_forall_ne_some.mpr fun j q => by
    have w := State.methodFound?_declared f1 f2 poly q (by simp [(Array.findIdx?_eq_some_iff_getElem.mp q).1])
    rw [f4] at w
    obtain rfl := Option.some.inj w
    obtain rfl := Option.some.inj (f2.symm.trans j3)
    exact hxo (j2.symm.trans j4)
  obtain ⟨ci, hl, hr⟩ := own_links hown f1 f2 f3 poly none0 f4 hncl hlink e.platform (by rw [X.admits.platform])
  obtain ⟨e1, e2⟩ := name_of_methodNamed d1 d2
  obtain ⟨vm', hWm, X', st⟩ := own_fstep X hexec hl hr d2 d3 o1 o2 hkB v3 (by rw [Launch.admits_selectMethod X.admits]; exact t4) u2 (by rw [e1, e2]; exact Cond.unhidden_spec hcB hunh) (Cond.publicMethod_spec u1 u2 hpub) u3 hg (hlen _ d4) hstack hdg
  obtain ⟨v, B, X2, hp, hst⟩ := hK m meth c ⟨T.setVm vm', locs, cells, slots⟩ { g with stack := rest } (.invokeinterface index count) mk (.ref b :: argsL).toArray X' hg hsize hdg hW (X'.named u1) (hpre vm' hWm)
  exact ⟨v, vm', B, hWm, X2, hp, (hcome.trans (st _ fun acts => by rw [doInvoke_state]; exact Steps.refl _)).trans hst⟩
theorem d10_0 : decode jdk_21_method_6_code 0 = .ok (.iinc 0 1, 3) := by decide +kernel
theorem d10_3 : decode jdk_21_method_6_code 3 = .ok (.iload_n 0, 1) := by decide +kernel
theorem d10_4 : decode jdk_21_method_6_code 4 = .ok (.iload_n 1, 1) := by decide +kernel
theorem d10_5 : decode jdk_21_method_6_code 5 = .ok (.if_icmp .lt 5, 3) := by decide +kernel
theorem d10_8 : decode jdk_21_method_6_code 8 = .ok (.iconst 0, 1) := by decide +kernel
theorem d10_9 : decode jdk_21_method_6_code 9 = .ok (.istore_n 0, 1) := by decide +kernel
theorem d10_10 : decode jdk_21_method_6_code 10 = .ok (.iload_n 0, 1) := by decide +kernel
theorem d10_11 : decode jdk_21_method_6_code 11 = .ok (.ireturn, 1) := by decide +kernel
theorem pn_10 : plainName "java/util/ArrayDeque" = true := by first | (simp [plainName, overriddenIn]; done) | decide +kernel
theorem ef_10 (m : MethodId)  : entryFrame m #[(.int (Int32.ofNat TT)), (.int (17 : Int32))] 2 = mkF m 0 #[.val (.int (Int32.ofNat TT)), .val (.int (17 : Int32))] [] := by first | (simp [entryFrame, mkF, argsToLocals, Value.category]; done) | rfl
def Q10 (Z : State) (TT : Nat) (h0 : Heap) (n0 : Nat) (v : Option Value) (h : Heap) (L : List Loc) : Prop := (v = some (.int (Int32.ofNat ((TT + 1) % 17)))) ∧ (Fr n0 L) ∧ (h = h0)
set_option maxRecDepth 65536 in
set_option maxHeartbeats 40000000 in
theorem rm10 (l : Launch) (Z : State) (a0 : Array Value) (hw : ∀ d ∈ tables_1, d.before a0 Z = true) (ws : List Jvm.Cond) (TT : Nat) (h0 : Heap) (n0 : Nat) (Z0 : n0 ≤ h0.size) (ht : TT < 17) :
    MetFree l (⟨"java/util/ArrayDeque", "inc", "(II)I"⟩ : MethodName) (head1 (Jvm.Cond.code (⟨"java/util/ArrayDeque", "inc", "(II)I"⟩ : MethodName) jdk_21_method_6_code 2 (some .int) :: ws) ({ frames := 0, cells := 0, slots := 0, locals := 0 } : Room)) (fun a U => a = #[(.int (Int32.ofNat TT)), (.int (17 : Int32))] ∧ Z.Warmed39 U.vm ∧ U.heap = h0) (fun _ _ _ _ _ => True) (fun _ U o U' => ∃ v L, o = .returned v ∧ Q10 Z TT h0 n0 v U'.heap L ∧ FrameEnd U o U' L ({ frames := 0, cells := 0, slots := 0, locals := 0 } : Room).cells ({ frames := 0, cells := 0, slots := 0, locals := 0 } : Room).slots) := by
  refine MetFree.of_bodySF (plainFor_of_name pn_10) hisR ?_
  intro p e s m args below meth c s₁ Bd hml0 hP hK
  obtain ⟨rfl, hZ, hh⟩ := hP
  have hx := Bd.exec
  have hby := Bd.bytes
  have hml : c.maxLocals = 2 := hml0
  have hown : s.vm.findClass "java/util/ArrayDeque" = some m.cls := findClass_of_methodNamed Bd.named
  have hnm := (name_of_methodNamed Bd.named Bd.method).1
  have X0 : Stand p l e ({ frames := 0, cells := 0, slots := 0, locals := 0 } : Room) s m #[(.int (Int32.ofNat TT)), (.int (17 : Int32))] below meth c s₁ [] 0 0 := Stand.of_body Bd
  have e0 : s₁.heap = h0 := by rw [← hh, Bd.state]; rfl
  have N0 := Fr.nil n0
  have pre0 : ∀ t, Steps p.tables e below (s₁.setTop (mkF m 0 #[.val (.int (Int32.ofNat TT)), .val (.int (17 : Int32))] [])) t → Steps p.tables e below (s₁.setTop (entryFrame m #[(.int (Int32.ofNat TT)), (.int (17 : Int32))] 2)) t := fun t k => castTop (ef_10 m) k
  have pre101 : ∀ t, Steps p.tables e below (s₁.setTop (mkF m 5 #[.val (.int ((Int32.ofNat TT) + (1 : Int32))), .val (.int (17 : Int32))] [(.int (17 : Int32)), (.int ((Int32.ofNat TT) + (1 : Int32)))])) t → Steps p.tables e below (s₁.setTop (entryFrame m #[(.int (Int32.ofNat TT)), (.int (17 : Int32))] 2)) t := fun t kt => pre0 t (by
      show Steps p.tables e below (s₁.setTop (mkF m 0 #[.val (.int (Int32.ofNat TT)), .val (.int (17 : Int32))] [])) _
      refine XS.iinc X0.here hx rfl (hb hby d10_0) rfl (l' := #[.val (.int ((Int32.ofNat TT) + (1 : Int32))), .val (.int (17 : Int32))]) rfl ?_
      show Steps p.tables e below (s₁.setTop (mkF m 3 #[.val (.int ((Int32.ofNat TT) + (1 : Int32))), .val (.int (17 : Int32))] [])) _
      refine XS.iloadN X0.here hx rfl (hb hby d10_3) rfl ?_
      show Steps p.tables e below (s₁.setTop (mkF m 4 #[.val (.int ((Int32.ofNat TT) + (1 : Int32))), .val (.int (17 : Int32))] [(.int ((Int32.ofNat TT) + (1 : Int32)))])) _
      refine XS.iloadN X0.here hx rfl (hb hby d10_4) rfl ?_
      exact kt)
  by_cases hc5 : ((Int32.ofNat TT) + (1 : Int32)) < (17 : Int32)
  · have pre102 : ∀ t, Steps p.tables e below (s₁.setTop (mkF m 11 #[.val (.int ((Int32.ofNat TT) + (1 : Int32))), .val (.int (17 : Int32))] [(.int ((Int32.ofNat TT) + (1 : Int32)))])) t → Steps p.tables e below (s₁.setTop (entryFrame m #[(.int (Int32.ofNat TT)), (.int (17 : Int32))] 2)) t := fun t kt => pre101 t (by
        show Steps p.tables e below (s₁.setTop (mkF m 5 #[.val (.int ((Int32.ofNat TT) + (1 : Int32))), .val (.int (17 : Int32))] [(.int (17 : Int32)), (.int ((Int32.ofNat TT) + (1 : Int32)))])) _
        refine XS.icmpYes X0.here hx rfl (pc0 := 5) (pc' := 10) rfl (hb hby d10_5) rfl (tlt hc5).1 (by decide) (by decide) ?_
        show Steps p.tables e below (s₁.setTop (mkF m 10 #[.val (.int ((Int32.ofNat TT) + (1 : Int32))), .val (.int (17 : Int32))] [])) _
        refine XS.iloadN X0.here hx rfl (hb hby d10_10) rfl ?_
        exact kt)
    obtain ⟨fs, hr, hrun, hended, hW, hsame⟩ := X0.leave (v := some (.int ((Int32.ofNat TT) + (1 : Int32)))) (fun h => by rw [Bd.returns] at h; cases h)
    refine ⟨_, _, pre102 _ ?_, hrun, hended, _, _, rfl, ?_, ⟨_, rfl⟩, hW, hsame.mono (by decide) (by decide)⟩
    · show Steps p.tables e below (s₁.setTop (mkF m 11 #[.val (.int ((Int32.ofNat TT) + (1 : Int32))), .val (.int (17 : Int32))] [(.int ((Int32.ofNat TT) + (1 : Int32)))])) _
      exact retI X0 hx Bd.returns (hb hby d10_11) hr
    · show Q10 Z TT h0 n0 _ s₁.heap _
      rw [e0]
      exact ⟨(congrArg (fun z => some (Value.int z)) (show ((Int32.ofNat TT) + (1 : Int32)) = (Int32.ofNat ((TT + 1) % 17)) from by rw [← own_inc ht, if_pos hc5])), N0, rfl⟩
  · have pre103 : ∀ t, Steps p.tables e below (s₁.setTop (mkF m 11 #[.val (.int (0 : Int32)), .val (.int (17 : Int32))] [(.int (0 : Int32))])) t → Steps p.tables e below (s₁.setTop (entryFrame m #[(.int (Int32.ofNat TT)), (.int (17 : Int32))] 2)) t := fun t kt => pre101 t (by
        show Steps p.tables e below (s₁.setTop (mkF m 5 #[.val (.int ((Int32.ofNat TT) + (1 : Int32))), .val (.int (17 : Int32))] [(.int (17 : Int32)), (.int ((Int32.ofNat TT) + (1 : Int32)))])) _
        refine XS.icmpNo X0.here hx rfl (hb hby d10_5) rfl (flt hc5).1 ?_
        show Steps p.tables e below (s₁.setTop (mkF m 8 #[.val (.int ((Int32.ofNat TT) + (1 : Int32))), .val (.int (17 : Int32))] [])) _
        refine XS.iconst X0.here hx rfl (hb hby d10_8) ?_
        show Steps p.tables e below (s₁.setTop (mkF m 9 #[.val (.int ((Int32.ofNat TT) + (1 : Int32))), .val (.int (17 : Int32))] [(.int (0 : Int32))])) _
        refine XS.istoreN X0.here hx rfl (hb hby d10_9) rfl (l' := #[.val (.int (0 : Int32)), .val (.int (17 : Int32))]) rfl ?_
        show Steps p.tables e below (s₁.setTop (mkF m 10 #[.val (.int (0 : Int32)), .val (.int (17 : Int32))] [])) _
        refine XS.iloadN X0.here hx rfl (hb hby d10_10) rfl ?_
        exact kt)
    obtain ⟨fs, hr, hrun, hended, hW, hsame⟩ := X0.leave (v := some (.int (0 : Int32))) (fun h => by rw [Bd.returns] at h; cases h)
    refine ⟨_, _, pre103 _ ?_, hrun, hended, _, _, rfl, ?_, ⟨_, rfl⟩, hW, hsame.mono (by decide) (by decide)⟩
    · show Steps p.tables e below (s₁.setTop (mkF m 11 #[.val (.int (0 : Int32)), .val (.int (17 : Int32))] [(.int (0 : Int32))])) _
      exact retI X0 hx Bd.returns (hb hby d10_11) hr
    · show Q10 Z TT h0 n0 _ s₁.heap _
      rw [e0]
      exact ⟨(congrArg (fun z => some (Value.int z)) (show (0 : Int32) = (Int32.ofNat ((TT + 1) % 17)) from by rw [← own_inc ht, if_neg hc5])), N0, rfl⟩
theorem d30_0 : decode jdk_21_method_7_code 0 = .ok (.iinc 0 (-1), 3) := by decide +kernel
theorem d30_3 : decode jdk_21_method_7_code 3 = .ok (.iload_n 0, 1) := by decide +kernel
theorem d30_4 : decode jdk_21_method_7_code 4 = .ok (.ifCond .ge 7, 3) := by decide +kernel
theorem d30_7 : decode jdk_21_method_7_code 7 = .ok (.iload_n 1, 1) := by decide +kernel
theorem d30_8 : decode jdk_21_method_7_code 8 = .ok (.iconst 1, 1) := by decide +kernel
theorem d30_9 : decode jdk_21_method_7_code 9 = .ok (.isub, 1) := by decide +kernel
theorem d30_10 : decode jdk_21_method_7_code 10 = .ok (.istore_n 0, 1) := by decide +kernel
theorem d30_11 : decode jdk_21_method_7_code 11 = .ok (.iload_n 0, 1) := by decide +kernel
theorem d30_12 : decode jdk_21_method_7_code 12 = .ok (.ireturn, 1) := by decide +kernel
theorem pn_30 : plainName "java/util/ArrayDeque" = true := by first | (simp [plainName, overriddenIn]; done) | decide +kernel
theorem ef_30 (m : MethodId)  : entryFrame m #[(.int (Int32.ofNat TT)), (.int (17 : Int32))] 2 = mkF m 0 #[.val (.int (Int32.ofNat TT)), .val (.int (17 : Int32))] [] := by first | (simp [entryFrame, mkF, argsToLocals, Value.category]; done) | rfl
def Q30 (Z : State) (TT : Nat) (h0 : Heap) (n0 : Nat) (v : Option Value) (h : Heap) (L : List Loc) : Prop := (v = some (.int (Int32.ofNat ((TT + 16) % 17)))) ∧ (Fr n0 L) ∧ (h = h0)
set_option maxRecDepth 65536 in
set_option maxHeartbeats 40000000 in
theorem rm30 (l : Launch) (Z : State) (a0 : Array Value) (hw : ∀ d ∈ tables_1, d.before a0 Z = true) (ws : List Jvm.Cond) (TT : Nat) (h0 : Heap) (n0 : Nat) (Z0 : n0 ≤ h0.size) (ht : TT < 17) :
    MetFree l (⟨"java/util/ArrayDeque", "dec", "(II)I"⟩ : MethodName) (head1 (Jvm.Cond.code (⟨"java/util/ArrayDeque", "dec", "(II)I"⟩ : MethodName) jdk_21_method_7_code 2 (some .int) :: ws) ({ frames := 0, cells := 0, slots := 0, locals := 0 } : Room)) (fun a U => a = #[(.int (Int32.ofNat TT)), (.int (17 : Int32))] ∧ Z.Warmed39 U.vm ∧ U.heap = h0) (fun _ _ _ _ _ => True) (fun _ U o U' => ∃ v L, o = .returned v ∧ Q30 Z TT h0 n0 v U'.heap L ∧ FrameEnd U o U' L ({ frames := 0, cells := 0, slots := 0, locals := 0 } : Room).cells ({ frames := 0, cells := 0, slots := 0, locals := 0 } : Room).slots) := by
  refine MetFree.of_bodySF (plainFor_of_name pn_30) hisR ?_
  intro p e s m args below meth c s₁ Bd hml0 hP hK
  obtain ⟨rfl, hZ, hh⟩ := hP
  have hx := Bd.exec
  have hby := Bd.bytes
  have hml : c.maxLocals = 2 := hml0
  have hown : s.vm.findClass "java/util/ArrayDeque" = some m.cls := findClass_of_methodNamed Bd.named
  have hnm := (name_of_methodNamed Bd.named Bd.method).1
  have X0 : Stand p l e ({ frames := 0, cells := 0, slots := 0, locals := 0 } : Room) s m #[(.int (Int32.ofNat TT)), (.int (17 : Int32))] below meth c s₁ [] 0 0 := Stand.of_body Bd
  have e0 : s₁.heap = h0 := by rw [← hh, Bd.state]; rfl
  have N0 := Fr.nil n0
  have pre0 : ∀ t, Steps p.tables e below (s₁.setTop (mkF m 0 #[.val (.int (Int32.ofNat TT)), .val (.int (17 : Int32))] [])) t → Steps p.tables e below (s₁.setTop (entryFrame m #[(.int (Int32.ofNat TT)), (.int (17 : Int32))] 2)) t := fun t k => castTop (ef_30 m) k
  have pre101 : ∀ t, Steps p.tables e below (s₁.setTop (mkF m 4 #[.val (.int ((Int32.ofNat TT) + (-1 : Int32))), .val (.int (17 : Int32))] [(.int ((Int32.ofNat TT) + (-1 : Int32)))])) t → Steps p.tables e below (s₁.setTop (entryFrame m #[(.int (Int32.ofNat TT)), (.int (17 : Int32))] 2)) t := fun t kt => pre0 t (by
      show Steps p.tables e below (s₁.setTop (mkF m 0 #[.val (.int (Int32.ofNat TT)), .val (.int (17 : Int32))] [])) _
      refine XS.iinc X0.here hx rfl (hb hby d30_0) rfl (l' := #[.val (.int ((Int32.ofNat TT) + (-1 : Int32))), .val (.int (17 : Int32))]) rfl ?_
      show Steps p.tables e below (s₁.setTop (mkF m 3 #[.val (.int ((Int32.ofNat TT) + (-1 : Int32))), .val (.int (17 : Int32))] [])) _
      refine XS.iloadN X0.here hx rfl (hb hby d30_3) rfl ?_
      exact kt)
  by_cases hc4 : ((Int32.ofNat TT) + (-1 : Int32)) < (0 : Int32)
  · have pre102 : ∀ t, Steps p.tables e below (s₁.setTop (mkF m 11 #[.val (.int ((17 : Int32) - (1 : Int32))), .val (.int (17 : Int32))] [])) t → Steps p.tables e below (s₁.setTop (entryFrame m #[(.int (Int32.ofNat TT)), (.int (17 : Int32))] 2)) t := fun t kt => pre101 t (by
        show Steps p.tables e below (s₁.setTop (mkF m 4 #[.val (.int ((Int32.ofNat TT) + (-1 : Int32))), .val (.int (17 : Int32))] [(.int ((Int32.ofNat TT) + (-1 : Int32)))])) _
        refine XS.ifNo X0.here hx rfl (hb hby d30_4) rfl ((if0 _ _).trans (tlt hc4).2.1) ?_
        show Steps p.tables e below (s₁.setTop (mkF m 7 #[.val (.int ((Int32.ofNat TT) + (-1 : Int32))), .val (.int (17 : Int32))] [])) _
        refine XS.iloadN X0.here hx rfl (hb hby d30_7) rfl ?_
        show Steps p.tables e below (s₁.setTop (mkF m 8 #[.val (.int ((Int32.ofNat TT) + (-1 : Int32))), .val (.int (17 : Int32))] [(.int (17 : Int32))])) _
        refine XS.iconst X0.here hx rfl (hb hby d30_8) ?_
        show Steps p.tables e below (s₁.setTop (mkF m 9 #[.val (.int ((Int32.ofNat TT) + (-1 : Int32))), .val (.int (17 : Int32))] [(.int (1 : Int32)), (.int (17 : Int32))])) _
        refine XS.isub X0.here hx rfl (hb hby d30_9) rfl ?_
        show Steps p.tables e below (s₁.setTop (mkF m 10 #[.val (.int ((Int32.ofNat TT) + (-1 : Int32))), .val (.int (17 : Int32))] [(.int ((17 : Int32) - (1 : Int32)))])) _
        refine XS.istoreN X0.here hx rfl (hb hby d30_10) rfl (l' := #[.val (.int ((17 : Int32) - (1 : Int32))), .val (.int (17 : Int32))]) rfl ?_
        exact kt)
    have pre103 : ∀ t, Steps p.tables e below (s₁.setTop (mkF m 11 #[.val (.int (16 : Int32)), .val (.int (17 : Int32))] [])) t → Steps p.tables e below (s₁.setTop (entryFrame m #[(.int (Int32.ofNat TT)), (.int (17 : Int32))] 2)) t := fun t kt => pre102 t (Eq.mpr (congrArg (fun zz_ => Steps p.tables e below (s₁.setTop (mkF m 11 #[.val (.int zz_), .val (.int (17 : Int32))] [])) t) (show ((17 : Int32) - (1 : Int32)) = (16 : Int32) from rfl)) kt)
    have pre104 : ∀ t, Steps p.tables e below (s₁.setTop (mkF m 12 #[.val (.int (16 : Int32)), .val (.int (17 : Int32))] [(.int (16 : Int32))])) t → Steps p.tables e below (s₁.setTop (entryFrame m #[(.int (Int32.ofNat TT)), (.int (17 : Int32))] 2)) t := fun t kt => pre103 t (by
        show Steps p.tables e below (s₁.setTop (mkF m 11 #[.val (.int (16 : Int32)), .val (.int (17 : Int32))] [])) _
        refine XS.iloadN X0.here hx rfl (hb hby d30_11) rfl ?_
        exact kt)
    obtain ⟨fs, hr, hrun, hended, hW, hsame⟩ := X0.leave (v := some (.int (16 : Int32))) (fun h => by rw [Bd.returns] at h; cases h) (hlocks := by first | exact BodyLoose.notSynchronized Bd | exact Body.notSynchronized Bd)
    refine ⟨_, _, pre104 _ ?_, hrun, hended, _, _, rfl, ?_, ⟨_, rfl⟩, hW, hsame.mono (by decide) (by decide)⟩
    · show Steps p.tables e below (s₁.setTop (mkF m 12 #[.val (.int (16 : Int32)), .val (.int (17 : Int32))] [(.int (16 : Int32))])) _
      exact retI X0 hx Bd.returns (hb hby d30_12) hr
    · show Q30 Z TT h0 n0 _ s₁.heap _
      rw [e0]
      exact ⟨(congrArg (fun z => some (Value.int z)) (show (16 : Int32) = (Int32.ofNat ((TT + 16) % 17)) from by rw [← own_dec2 ht, if_pos hc4])), N0, rfl⟩
  · have pre105 : ∀ t, Steps p.tables e below (s₁.setTop (mkF m 12 #[.val (.int ((Int32.ofNat TT) + (-1 : Int32))), .val (.int (17 : Int32))] [(.int ((Int32.ofNat TT) + (-1 : Int32)))])) t → Steps p.tables e below (s₁.setTop (entryFrame m #[(.int (Int32.ofNat TT)), (.int (17 : Int32))] 2)) t := fun t kt => pre101 t (by
        show Steps p.tables e below (s₁.setTop (mkF m 4 #[.val (.int ((Int32.ofNat TT) + (-1 : Int32))), .val (.int (17 : Int32))] [(.int ((Int32.ofNat TT) + (-1 : Int32)))])) _
        refine XS.ifYes X0.here hx rfl (pc0 := 4) (pc' := 11) rfl (hb hby d30_4) rfl ((if0 _ _).trans (flt hc4).2.1) (by decide) (by decide) ?_
        show Steps p.tables e below (s₁.setTop (mkF m 11 #[.val (.int ((Int32.ofNat TT) + (-1 : Int32))), .val (.int (17 : Int32))] [])) _
        refine XS.iloadN X0.here hx rfl (hb hby d30_11) rfl ?_
        exact kt)
    obtain ⟨fs, hr, hrun, hended, hW, hsame⟩ := X0.leave (v := some (.int ((Int32.ofNat TT) + (-1 : Int32)))) (fun h => by rw [Bd.returns] at h; cases h) (hlocks := by first | exact BodyLoose.notSynchronized Bd | exact Body.notSynchronized Bd)
    refine ⟨_, _, pre105 _ ?_, hrun, hended, _, _, rfl, ?_, ⟨_, rfl⟩, hW, hsame.mono (by decide) (by decide)⟩
    · show Steps p.tables e below (s₁.setTop (mkF m 12 #[.val (.int ((Int32.ofNat TT) + (-1 : Int32))), .val (.int (17 : Int32))] [(.int ((Int32.ofNat TT) + (-1 : Int32)))])) _
      exact retI X0 hx Bd.returns (hb hby d30_12) hr
    · show Q30 Z TT h0 n0 _ s₁.heap _
      rw [e0]
      exact ⟨(congrArg (fun z => some (Value.int z)) (show ((Int32.ofNat TT) + (-1 : Int32)) = (Int32.ofNat ((TT + 16) % 17)) from by rw [← own_dec2 ht, if_neg hc4])), N0, rfl⟩
theorem d12_0 : decode jdk_21_method_9_code 0 = .ok (.iload_n 0, 1) := by decide +kernel
theorem d12_1 : decode jdk_21_method_9_code 1 = .ok (.iload_n 1, 1) := by decide +kernel
theorem d12_2 : decode jdk_21_method_9_code 2 = .ok (.isub, 1) := by decide +kernel
theorem d12_3 : decode jdk_21_method_9_code 3 = .ok (.dup, 1) := by decide +kernel
theorem d12_4 : decode jdk_21_method_9_code 4 = .ok (.istore_n 0, 1) := by decide +kernel
theorem d12_5 : decode jdk_21_method_9_code 5 = .ok (.ifCond .ge 7, 3) := by decide +kernel
theorem d12_8 : decode jdk_21_method_9_code 8 = .ok (.iload_n 0, 1) := by decide +kernel
theorem d12_9 : decode jdk_21_method_9_code 9 = .ok (.iload_n 2, 1) := by decide +kernel
theorem d12_10 : decode jdk_21_method_9_code 10 = .ok (.iadd, 1) := by decide +kernel
theorem d12_11 : decode jdk_21_method_9_code 11 = .ok (.istore_n 0, 1) := by decide +kernel
theorem d12_12 : decode jdk_21_method_9_code 12 = .ok (.iload_n 0, 1) := by decide +kernel
theorem d12_13 : decode jdk_21_method_9_code 13 = .ok (.ireturn, 1) := by decide +kernel
theorem pn_12 : plainName "java/util/ArrayDeque" = true := by first | (simp [plainName, overriddenIn]; done) | decide +kernel
theorem ef_12 (m : MethodId)  : entryFrame m #[(.int (Int32.ofNat ((HD + CN) % 17))), (.int (Int32.ofNat HD)), (.int (17 : Int32))] 3 = mkF m 0 #[.val (.int (Int32.ofNat ((HD + CN) % 17))), .val (.int (Int32.ofNat HD)), .val (.int (17 : Int32))] [] := by first | (simp [entryFrame, mkF, argsToLocals, Value.category]; done) | rfl
def Q12 (Z : State) (HD : Nat) (CN : Nat) (h0 : Heap) (n0 : Nat) (v : Option Value) (h : Heap) (L : List Loc) : Prop := (v = some (.int (Int32.ofNat CN))) ∧ (Fr n0 L) ∧ (h = h0)
set_option maxRecDepth 65536 in
set_option maxHeartbeats 40000000 in
theorem rm12 (l : Launch) (Z : State) (a0 : Array Value) (hw : ∀ d ∈ tables_1, d.before a0 Z = true) (ws : List Jvm.Cond) (HD : Nat) (CN : Nat) (h0 : Heap) (n0 : Nat) (Z0 : n0 ≤ h0.size) (h1 : HD < 17) (h2 : CN ≤ 4) :
    MetFree l (⟨"java/util/ArrayDeque", "sub", "(III)I"⟩ : MethodName) (head1 (Jvm.Cond.code (⟨"java/util/ArrayDeque", "sub", "(III)I"⟩ : MethodName) jdk_21_method_9_code 3 (some .int) :: ws) ({ frames := 0, cells := 0, slots := 0, locals := 0 } : Room)) (fun a U => a = #[(.int (Int32.ofNat ((HD + CN) % 17))), (.int (Int32.ofNat HD)), (.int (17 : Int32))] ∧ Z.Warmed39 U.vm ∧ U.heap = h0) (fun _ _ _ _ _ => True) (fun _ U o U' => ∃ v L, o = .returned v ∧ Q12 Z HD CN h0 n0 v U'.heap L ∧ FrameEnd U o U' L ({ frames := 0, cells := 0, slots := 0, locals := 0 } : Room).cells ({ frames := 0, cells := 0, slots := 0, locals := 0 } : Room).slots) := by
  refine MetFree.of_bodySF (plainFor_of_name pn_12) hisR ?_
  intro p e s m args below meth c s₁ Bd hml0 hP hK
  obtain ⟨rfl, hZ, hh⟩ := hP
  have hx := Bd.exec
  have hby := Bd.bytes
  have hml : c.maxLocals = 3 := hml0
  have hown : s.vm.findClass "java/util/ArrayDeque" = some m.cls := findClass_of_methodNamed Bd.named
  have hnm := (name_of_methodNamed Bd.named Bd.method).1
  have X0 : Stand p l e ({ frames := 0, cells := 0, slots := 0, locals := 0 } : Room) s m #[(.int (Int32.ofNat ((HD + CN) % 17))), (.int (Int32.ofNat HD)), (.int (17 : Int32))] below meth c s₁ [] 0 0 := Stand.of_body Bd
  have e0 : s₁.heap = h0 := by rw [← hh, Bd.state]; rfl
  have N0 := Fr.nil n0
  have pre0 : ∀ t, Steps p.tables e below (s₁.setTop (mkF m 0 #[.val (.int (Int32.ofNat ((HD + CN) % 17))), .val (.int (Int32.ofNat HD)), .val (.int (17 : Int32))] [])) t → Steps p.tables e below (s₁.setTop (entryFrame m #[(.int (Int32.ofNat ((HD + CN) % 17))), (.int (Int32.ofNat HD)), (.int (17 : Int32))] 3)) t := fun t k => castTop (ef_12 m) k
  have pre101 : ∀ t, Steps p.tables e below (s₁.setTop (mkF m 5 #[.val (.int ((Int32.ofNat ((HD + CN) % 17)) - (Int32.ofNat HD))), .val (.int (Int32.ofNat HD)), .val (.int (17 : Int32))] [(.int ((Int32.ofNat ((HD + CN) % 17)) - (Int32.ofNat HD)))])) t → Steps p.tables e below (s₁.setTop (entryFrame m #[(.int (Int32.ofNat ((HD + CN) % 17))), (.int (Int32.ofNat HD)), (.int (17 : Int32))] 3)) t := fun t kt => pre0 t (by
      show Steps p.tables e below (s₁.setTop (mkF m 0 #[.val (.int (Int32.ofNat ((HD + CN) % 17))), .val (.int (Int32.ofNat HD)), .val (.int (17 : Int32))] [])) _
      refine XS.iloadN X0.here hx rfl (hb hby d12_0) rfl ?_
      show Steps p.tables e below (s₁.setTop (mkF m 1 #[.val (.int (Int32.ofNat ((HD + CN) % 17))), .val (.int (Int32.ofNat HD)), .val (.int (17 : Int32))] [(.int (Int32.ofNat ((HD + CN) % 17)))])) _
      refine XS.iloadN X0.here hx rfl (hb hby d12_1) rfl ?_
      show Steps p.tables e below (s₁.setTop (mkF m 2 #[.val (.int (Int32.ofNat ((HD + CN) % 17))), .val (.int (Int32.ofNat HD)), .val (.int (17 : Int32))] [(.int (Int32.ofNat HD)), (.int (Int32.ofNat ((HD + CN) % 17)))])) _
      refine XS.isub X0.here hx rfl (hb hby d12_2) rfl ?_
      show Steps p.tables e below (s₁.setTop (mkF m 3 #[.val (.int (Int32.ofNat ((HD + CN) % 17))), .val (.int (Int32.ofNat HD)), .val (.int (17 : Int32))] [(.int ((Int32.ofNat ((HD + CN) % 17)) - (Int32.ofNat HD)))])) _
      refine XS.dup X0.here hx rfl (hb hby d12_3) rfl rfl ?_
      show Steps p.tables e below (s₁.setTop (mkF m 4 #[.val (.int (Int32.ofNat ((HD + CN) % 17))), .val (.int (Int32.ofNat HD)), .val (.int (17 : Int32))] [(.int ((Int32.ofNat ((HD + CN) % 17)) - (Int32.ofNat HD))), (.int ((Int32.ofNat ((HD + CN) % 17)) - (Int32.ofNat HD)))])) _
      refine XS.istoreN X0.here hx rfl (hb hby d12_4) rfl (l' := #[.val (.int ((Int32.ofNat ((HD + CN) % 17)) - (Int32.ofNat HD))), .val (.int (Int32.ofNat HD)), .val (.int (17 : Int32))]) rfl ?_
      exact kt)
  by_cases hc5 : ((Int32.ofNat ((HD + CN) % 17)) - (Int32.ofNat HD)) < (0 : Int32)
  · have pre102 : ∀ t, Steps p.tables e below (s₁.setTop (mkF m 13 #[.val (.int (((Int32.ofNat ((HD + CN) % 17)) - (Int32.ofNat HD)) + (17 : Int32))), .val (.int (Int32.ofNat HD)), .val (.int (17 : Int32))] [(.int (((Int32.ofNat ((HD + CN) % 17)) - (Int32.ofNat HD)) + (17 : Int32)))])) t → Steps p.tables e below (s₁.setTop (entryFrame m #[(.int (Int32.ofNat ((HD + CN) % 17))), (.int (Int32.ofNat HD)), (.int (17 : Int32))] 3)) t := fun t kt => pre101 t (by
        show Steps p.tables e below (s₁.setTop (mkF m 5 #[.val (.int ((Int32.ofNat ((HD + CN) % 17)) - (Int32.ofNat HD))), .val (.int (Int32.ofNat HD)), .val (.int (17 : Int32))] [(.int ((Int32.ofNat ((HD + CN) % 17)) - (Int32.ofNat HD)))])) _
        refine XS.ifNo X0.here hx rfl (hb hby d12_5) rfl ((if0 _ _).trans (tlt hc5).2.1) ?_
        show Steps p.tables e below (s₁.setTop (mkF m 8 #[.val (.int ((Int32.ofNat ((HD + CN) % 17)) - (Int32.ofNat HD))), .val (.int (Int32.ofNat HD)), .val (.int (17 : Int32))] [])) _
        refine XS.iloadN X0.here hx rfl (hb hby d12_8) rfl ?_
        show Steps p.tables e below (s₁.setTop (mkF m 9 #[.val (.int ((Int32.ofNat ((HD + CN) % 17)) - (Int32.ofNat HD))), .val (.int (Int32.ofNat HD)), .val (.int (17 : Int32))] [(.int ((Int32.ofNat ((HD + CN) % 17)) - (Int32.ofNat HD)))])) _
        refine XS.iloadN X0.here hx rfl (hb hby d12_9) rfl ?_
        show Steps p.tables e below (s₁.setTop (mkF m 10 #[.val (.int ((Int32.ofNat ((HD + CN) % 17)) - (Int32.ofNat HD))), .val (.int (Int32.ofNat HD)), .val (.int (17 : Int32))] [(.int (17 : Int32)), (.int ((Int32.ofNat ((HD + CN) % 17)) - (Int32.ofNat HD)))])) _
        refine XS.iadd X0.here hx rfl (hb hby d12_10) rfl ?_
        show Steps p.tables e below (s₁.setTop (mkF m 11 #[.val (.int ((Int32.ofNat ((HD + CN) % 17)) - (Int32.ofNat HD))), .val (.int (Int32.ofNat HD)), .val (.int (17 : Int32))] [(.int (((Int32.ofNat ((HD + CN) % 17)) - (Int32.ofNat HD)) + (17 : Int32)))])) _
        refine XS.istoreN X0.here hx rfl (hb hby d12_11) rfl (l' := #[.val (.int (((Int32.ofNat ((HD + CN) % 17)) - (Int32.ofNat HD)) + (17 : Int32))), .val (.int (Int32.ofNat HD)), .val (.int (17 : Int32))]) rfl ?_
        show Steps p.tables e below (s₁.setTop (mkF m 12 #[.val (.int (((Int32.ofNat ((HD + CN) % 17)) - (Int32.ofNat HD)) + (17 : Int32))), .val (.int (Int32.ofNat HD)), .val (.int (17 : Int32))] [])) _
        refine XS.iloadN X0.here hx rfl (hb hby d12_12) rfl ?_
        exact kt)
    obtain ⟨fs, hr, hrun, hended, hW, hsame⟩ := X0.leave (v := some (.int (((Int32.ofNat ((HD + CN) % 17)) - (Int32.ofNat HD)) + (17 : Int32)))) (fun h => by rw [Bd.returns] at h; cases h)
    refine ⟨_, _, pre102 _ ?_, hrun, hended, _, _, rfl, ?_, ⟨_, rfl⟩, hW, hsame.mono (by decide) (by decide)⟩
    · show Steps p.tables e below (s₁.setTop (mkF m 13 #[.val (.int (((Int32.ofNat ((HD + CN) % 17)) - (Int32.ofNat HD)) + (17 : Int32))), .val (.int (Int32.ofNat HD)), .val (.int (17 : Int32))] [(.int (((Int32.ofNat ((HD + CN) % 17)) - (Int32.ofNat HD)) + (17 : Int32)))])) _
      exact retI X0 hx Bd.returns (hb hby d12_13) hr
    · show Q12 Z HD CN h0 n0 _ s₁.heap _
      rw [e0]
      exact ⟨(congrArg (fun z => some (Value.int z)) (show (((Int32.ofNat ((HD + CN) % 17)) - (Int32.ofNat HD)) + (17 : Int32)) = (Int32.ofNat CN) from by rw [← own_sub h1 h2, if_pos hc5])), N0, rfl⟩
  · have pre103 : ∀ t, Steps p.tables e below (s₁.setTop (mkF m 13 #[.val (.int ((Int32.ofNat ((HD + CN) % 17)) - (Int32.ofNat HD))), .val (.int (Int32.ofNat HD)), .val (.int (17 : Int32))] [(.int ((Int32.ofNat ((HD + CN) % 17)) - (Int32.ofNat HD)))])) t → Steps p.tables e below (s₁.setTop (entryFrame m #[(.int (Int32.ofNat ((HD + CN) % 17))), (.int (Int32.ofNat HD)), (.int (17 : Int32))] 3)) t := fun t kt => pre101 t (by
        show Steps p.tables e below (s₁.setTop (mkF m 5 #[.val (.int ((Int32.ofNat ((HD + CN) % 17)) - (Int32.ofNat HD))), .val (.int (Int32.ofNat HD)), .val (.int (17 : Int32))] [(.int ((Int32.ofNat ((HD + CN) % 17)) - (Int32.ofNat HD)))])) _
        refine XS.ifYes X0.here hx rfl (pc0 := 5) (pc' := 12) rfl (hb hby d12_5) rfl ((if0 _ _).trans (flt hc5).2.1) (by decide) (by decide) ?_
        show Steps p.tables e below (s₁.setTop (mkF m 12 #[.val (.int ((Int32.ofNat ((HD + CN) % 17)) - (Int32.ofNat HD))), .val (.int (Int32.ofNat HD)), .val (.int (17 : Int32))] [])) _
        refine XS.iloadN X0.here hx rfl (hb hby d12_12) rfl ?_
        exact kt)
    obtain ⟨fs, hr, hrun, hended, hW, hsame⟩ := X0.leave (v := some (.int ((Int32.ofNat ((HD + CN) % 17)) - (Int32.ofNat HD)))) (fun h => by rw [Bd.returns] at h; cases h)
    refine ⟨_, _, pre103 _ ?_, hrun, hended, _, _, rfl, ?_, ⟨_, rfl⟩, hW, hsame.mono (by decide) (by decide)⟩
    · show Steps p.tables e below (s₁.setTop (mkF m 13 #[.val (.int ((Int32.ofNat ((HD + CN) % 17)) - (Int32.ofNat HD))), .val (.int (Int32.ofNat HD)), .val (.int (17 : Int32))] [(.int ((Int32.ofNat ((HD + CN) % 17)) - (Int32.ofNat HD)))])) _
      exact retI X0 hx Bd.returns (hb hby d12_13) hr
    · show Q12 Z HD CN h0 n0 _ s₁.heap _
      rw [e0]
      exact ⟨(congrArg (fun z => some (Value.int z)) (show ((Int32.ofNat ((HD + CN) % 17)) - (Int32.ofNat HD)) = (Int32.ofNat CN) from by rw [← own_sub h1 h2, if_neg hc5])), N0, rfl⟩
theorem d22_0 : decode jdk_29_method_69_code 0 = .ok (.iload_n 0, 1) := by decide +kernel
theorem d22_1 : decode jdk_29_method_69_code 1 = .ok (.iload_n 1, 1) := by decide +kernel
theorem d22_2 : decode jdk_29_method_69_code 2 = .ok (.if_icmp .gt 7, 3) := by decide +kernel
theorem d22_5 : decode jdk_29_method_69_code 5 = .ok (.iload_n 0, 1) := by decide +kernel
theorem d22_6 : decode jdk_29_method_69_code 6 = .ok (.goto 4, 3) := by decide +kernel
theorem d22_9 : decode jdk_29_method_69_code 9 = .ok (.iload_n 1, 1) := by decide +kernel
theorem d22_10 : decode jdk_29_method_69_code 10 = .ok (.ireturn, 1) := by decide +kernel
theorem ef_22 (m : MethodId) (P0 : Int32) (P1 : Int32) : entryFrame m #[(.int P0), (.int P1)] 2 = mkF m 0 #[.val (.int P0), .val (.int P1)] [] := by first | (simp [entryFrame, mkF, argsToLocals, Value.category]; done) | rfl
def Q22 (Z : State) (P0 : Int32) (P1 : Int32) (h0 : Heap) (n0 : Nat) (v : Option Value) (h : Heap) (L : List Loc) : Prop := (v = some (.int (if P1 < P0 then P1 else P0))) ∧ (Fr n0 L) ∧ (h = h0)
set_option maxRecDepth 65536 in
set_option maxHeartbeats 40000000 in
theorem rm22 (l : Launch) (Z : State) (a0 : Array Value) (hw : ∀ d ∈ tables_1, d.before a0 Z = true) (ws : List Jvm.Cond) (P0 : Int32) (P1 : Int32) (h0 : Heap) (n0 : Nat) (Z0 : n0 ≤ h0.size) :
    MetFree l (⟨"java/lang/Math", "min", "(II)I"⟩ : MethodName) (head1 (Jvm.Cond.code (⟨"java/lang/Math", "min", "(II)I"⟩ : MethodName) jdk_29_method_69_code 2 (some .int) :: ws) ({ frames := 0, cells := 0, slots := 0, locals := 0 } : Room)) (fun a U => a = #[(.int P0), (.int P1)] ∧ Z.Warmed39 U.vm ∧ U.heap = h0) (fun _ _ _ _ _ => True) (fun _ U o U' => ∃ v L, o = .returned v ∧ Q22 Z P0 P1 h0 n0 v U'.heap L ∧ FrameEnd U o U' L ({ frames := 0, cells := 0, slots := 0, locals := 0 } : Room).cells ({ frames := 0, cells := 0, slots := 0, locals := 0 } : Room).slots) := by
  refine MetFree.of_bodySF (Jvm.Free.JP.mathPlain rfl (by decide +kernel)) hisR ?_
  intro p e s m args below meth c s₁ Bd hml0 hP hK
  obtain ⟨rfl, hZ, hh⟩ := hP
  have hx := Bd.exec
  have hby := Bd.bytes
  have hml : c.maxLocals = 2 := hml0
  have hown : s.vm.findClass "java/lang/Math" = some m.cls := findClass_of_methodNamed Bd.named
  have hnm := (name_of_methodNamed Bd.named Bd.method).1
  have X0 : Stand p l e ({ frames := 0, cells := 0, slots := 0, locals := 0 } : Room) s m #[(.int P0), (.int P1)] below meth c s₁ [] 0 0 := Stand.of_body Bd
  have e0 : s₁.heap = h0 := by rw [← hh, Bd.state]; rfl
  have N0 := Fr.nil n0
  have pre0 : ∀ t, Steps p.tables e below (s₁.setTop (mkF m 0 #[.val (.int P0), .val (.int P1)] [])) t → Steps p.tables e below (s₁.setTop (entryFrame m #[(.int P0), (.int P1)] 2)) t := fun t k => castTop (ef_22 m P0 P1) k
  have pre101 : ∀ t, Steps p.tables e below (s₁.setTop (mkF m 2 #[.val (.int P0), .val (.int P1)] [(.int P1), (.int P0)])) t → Steps p.tables e below (s₁.setTop (entryFrame m #[(.int P0), (.int P1)] 2)) t := fun t kt => pre0 t (by
      show Steps p.tables e below (s₁.setTop (mkF m 0 #[.val (.int P0), .val (.int P1)] [])) _
      refine XS.iloadN X0.here hx rfl (hb hby d22_0) rfl ?_
      show Steps p.tables e below (s₁.setTop (mkF m 1 #[.val (.int P0), .val (.int P1)] [(.int P0)])) _
      refine XS.iloadN X0.here hx rfl (hb hby d22_1) rfl ?_
      exact kt)
  by_cases hc2 : P1 < P0
  · have pre102 : ∀ t, Steps p.tables e below (s₁.setTop (mkF m 10 #[.val (.int P0), .val (.int P1)] [(.int P1)])) t → Steps p.tables e below (s₁.setTop (entryFrame m #[(.int P0), (.int P1)] 2)) t := fun t kt => pre101 t (by
        show Steps p.tables e below (s₁.setTop (mkF m 2 #[.val (.int P0), .val (.int P1)] [(.int P1), (.int P0)])) _
        refine XS.icmpYes X0.here hx rfl (pc0 := 2) (pc' := 9) rfl (hb hby d22_2) rfl (tlt hc2).2.2.1 (by decide) (by decide) ?_
        show Steps p.tables e below (s₁.setTop (mkF m 9 #[.val (.int P0), .val (.int P1)] [])) _
        refine XS.iloadN X0.here hx rfl (hb hby d22_9) rfl ?_
        exact kt)
    obtain ⟨fs, hr, hrun, hended, hW, hsame⟩ := X0.leave (v := some (.int P1)) (fun h => by rw [Bd.returns] at h; cases h)
    refine ⟨_, _, pre102 _ ?_, hrun, hended, _, _, rfl, ?_, ⟨_, rfl⟩, hW, hsame.mono (by decide) (by decide)⟩
    · show Steps p.tables e below (s₁.setTop (mkF m 10 #[.val (.int P0), .val (.int P1)] [(.int P1)])) _
      exact retI X0 hx Bd.returns (hb hby d22_10) hr
    · show Q22 Z P0 P1 h0 n0 _ s₁.heap _
      rw [e0]
      exact ⟨(congrArg (fun z => some (Value.int z)) (show P1 = (if P1 < P0 then P1 else P0) from by rw [if_pos hc2])), N0, rfl⟩
  · have pre103 : ∀ t, Steps p.tables e below (s₁.setTop (mkF m 10 #[.val (.int P0), .val (.int P1)] [(.int P0)])) t → Steps p.tables e below (s₁.setTop (entryFrame m #[(.int P0), (.int P1)] 2)) t := fun t kt => pre101 t (by
        show Steps p.tables e below (s₁.setTop (mkF m 2 #[.val (.int P0), .val (.int P1)] [(.int P1), (.int P0)])) _
        refine XS.icmpNo X0.here hx rfl (hb hby d22_2) rfl (flt hc2).2.2.1 ?_
        show Steps p.tables e below (s₁.setTop (mkF m 5 #[.val (.int P0), .val (.int P1)] [])) _
        refine XS.iloadN X0.here hx rfl (hb hby d22_5) rfl ?_
        show Steps p.tables e below (s₁.setTop (mkF m 6 #[.val (.int P0), .val (.int P1)] [(.int P0)])) _
        refine XS.goto X0.here hx rfl (pc0 := 6) (pc' := 10) rfl (hb hby d22_6) (by decide) (by decide) ?_
        exact kt)
    obtain ⟨fs, hr, hrun, hended, hW, hsame⟩ := X0.leave (v := some (.int P0)) (fun h => by rw [Bd.returns] at h; cases h)
    refine ⟨_, _, pre103 _ ?_, hrun, hended, _, _, rfl, ?_, ⟨_, rfl⟩, hW, hsame.mono (by decide) (by decide)⟩
    · show Steps p.tables e below (s₁.setTop (mkF m 10 #[.val (.int P0), .val (.int P1)] [(.int P0)])) _
      exact retI X0 hx Bd.returns (hb hby d22_10) hr
    · show Q22 Z P0 P1 h0 n0 _ s₁.heap _
      rw [e0]
      exact ⟨(congrArg (fun z => some (Value.int z)) (show P0 = (if P1 < P0 then P1 else P0) from by rw [if_neg hc2])), N0, rfl⟩
theorem d11_0 : decode jdk_21_method_37_code 0 = .ok (.aload_n 0, 1) := by decide +kernel
theorem d11_1 : decode jdk_21_method_37_code 1 = .ok (.getfield 20, 3) := by decide +kernel
theorem d11_4 : decode jdk_21_method_37_code 4 = .ok (.aload_n 0, 1) := by decide +kernel
theorem d11_5 : decode jdk_21_method_37_code 5 = .ok (.getfield 24, 3) := by decide +kernel
theorem d11_8 : decode jdk_21_method_37_code 8 = .ok (.aload_n 0, 1) := by decide +kernel
theorem d11_9 : decode jdk_21_method_37_code 9 = .ok (.getfield 3, 3) := by decide +kernel
theorem d11_12 : decode jdk_21_method_37_code 12 = .ok (.arraylength, 1) := by decide +kernel
theorem d11_13 : decode jdk_21_method_37_code 13 = .ok (.invokestatic 127, 3) := by decide +kernel
theorem d11_16 : decode jdk_21_method_37_code 16 = .ok (.ireturn, 1) := by decide +kernel
theorem pn_11 : plainName "java/util/ArrayDeque" = true := by first | (simp [plainName, overriddenIn]; done) | decide +kernel
theorem pd_11_0 : parseMethodDescriptor "(III)I" = some ⟨[.int, .int, .int], some .int⟩ := by decide +kernel
theorem ef_11 (m : MethodId) (A0 : Addr) : entryFrame m #[(.ref A0)] 1 = mkF m 0 #[.val (.ref A0)] [] := by first | (simp [entryFrame, mkF, argsToLocals, Value.category]; done) | rfl
def Q11 (Z : State) (A0 : Addr) (E0 : Addr) (FF : Nat → Value) (HD : Nat) (CN : Nat) (h0 : Heap) (n0 : Nat) (v : Option Value) (h : Heap) (L : List Loc) : Prop := (v = some (.int (Int32.ofNat CN))) ∧ (Fr n0 L) ∧ (h = h0)
set_option maxRecDepth 65536 in
set_option maxHeartbeats 40000000 in
theorem rm11 (l : Launch) (Z : State) (a0 : Array Value) (hw : ∀ d ∈ tables_1, d.before a0 Z = true) (ws : List Jvm.Cond) (A0 : Addr) (E0 : Addr) (FF : Nat → Value) (HD : Nat) (CN : Nat) (h0 : Heap) (n0 : Nat) (Z0 : n0 ≤ h0.size) (pm0 : Exa Z h0 A0 "java/util/ArrayDeque") (pm1 : Fld Z h0 A0 "java/util/ArrayDeque" "elements" "[Ljava/lang/Object;" (.ref E0)) (pm2 : Fld Z h0 A0 "java/util/ArrayDeque" "head" "I" (.int (Int32.ofNat HD))) (pm3 : Fld Z h0 A0 "java/util/ArrayDeque" "tail" "I" (.int (Int32.ofNat ((HD + CN) % 17)))) (pm4 : own_El Z h0 E0 FF) (hq : own_Dq FF HD CN) :
    MetFree l (⟨"java/util/ArrayDeque", "size", "()I"⟩ : MethodName) (head1 (Jvm.Cond.code (⟨"java/util/ArrayDeque", "size", "()I"⟩ : MethodName) jdk_21_method_37_code 1 (some .int) :: ws) ({ frames := 1, cells := 0, slots := 0, locals := 14 } : Room)) (fun a U => a = #[(.ref A0)] ∧ Z.Warmed39 U.vm ∧ U.heap = h0) (fun _ _ _ _ _ => True) (fun _ U o U' => ∃ v L, o = .returned v ∧ Q11 Z A0 E0 FF HD CN h0 n0 v U'.heap L ∧ FrameEnd U o U' L ({ frames := 1, cells := 0, slots := 0, locals := 14 } : Room).cells ({ frames := 1, cells := 0, slots := 0, locals := 14 } : Room).slots) := by
  refine MetFree.of_bodySF (plainFor_of_name pn_11) hisR ?_
  intro p e s m args below meth c s₁ Bd hml0 hP hK
  obtain ⟨rfl, hZ, hh⟩ := hP
  have hx := Bd.exec
  have hby := Bd.bytes
  have hml : c.maxLocals = 1 := hml0
  have hown : s.vm.findClass "java/util/ArrayDeque" = some m.cls := findClass_of_methodNamed Bd.named
  have hnm := (name_of_methodNamed Bd.named Bd.method).1
  have X0 : Stand p l e ({ frames := 1, cells := 0, slots := 0, locals := 14 } : Room) s m #[(.ref A0)] below meth c s₁ [] 0 0 := Stand.of_body Bd
  have e0 : s₁.heap = h0 := by rw [← hh, Bd.state]; rfl
  have N0 := Fr.nil n0
  have pre0 : ∀ t, Steps p.tables e below (s₁.setTop (mkF m 0 #[.val (.ref A0)] [])) t → Steps p.tables e below (s₁.setTop (entryFrame m #[(.ref A0)] 1)) t := fun t k => castTop (ef_11 m A0) k
  obtain ⟨T101, X101, e101, st101⟩ := getF X0 hx hZ hown (host := "") (Or.inl (hw _ (List.mem_of_getElem? (i := 60) rfl))) Via.refl e0 pm3 (g := (mkF m 1 #[.val (.ref A0)] [(.ref A0)])) rfl rfl (hb hby d11_1)
  obtain ⟨T102, X102, e102, st102⟩ := getF X101 hx hZ hown (host := "") (Or.inl (hw _ (List.mem_of_getElem? (i := 63) rfl))) Via.refl e101 pm2 (g := (mkF m 5 #[.val (.ref A0)] [(.ref A0), (.int (Int32.ofNat ((HD + CN) % 17)))])) rfl rfl (hb hby d11_5)
  obtain ⟨T103, X103, e103, st103⟩ := getF X102 hx hZ hown (host := "") (Or.inl (hw _ (List.mem_of_getElem? (i := 24) rfl))) Via.refl e102 pm1 (g := (mkF m 9 #[.val (.ref A0)] [(.ref A0), (.int (Int32.ofNat HD)), (.int (Int32.ofNat ((HD + CN) % 17)))])) rfl rfl (hb hby d11_9)
  obtain ⟨cl104, Ar104, -, S104, -, -⟩ := id pm4
  obtain ⟨_, _, ⟨T105, L105, k105, n105⟩, -, X105, ⟨Lc105, hQ105, l105, y105, z105⟩, st105⟩ := Jvm.LawKit.callS X103 hx (y := (⟨"java/util/ArrayDeque", "sub", "(III)I"⟩ : MethodName)) hown (mvT hZ (hw _ (List.mem_of_getElem? (i := 76) rfl))) (mvT hZ (hw _ (List.mem_of_getElem? (i := 77) rfl))) (mvT hZ (hw _ (List.mem_of_getElem? (i := 11) rfl))) (mvT hZ (hw _ (List.mem_of_getElem? (i := 78) rfl))) (by decide) (backOf (W := 0) (rm12 l Z a0 hw [] HD CN h0 n0 Z0 (show HD < 17 from hq.1) (show CN ≤ 4 from hq.2.1)) hZ (hw _ (List.mem_of_getElem? (i := 78) rfl)) (hw _ (List.mem_of_getElem? (i := 11) rfl)) (by decide) (by decide)) (g := (mkF m 13 #[.val (.ref A0)] [(.int (17 : Int32)), (.int (Int32.ofNat HD)), (.int (Int32.ofNat ((HD + CN) % 17)))])) rfl (by rw [hml]; rfl) (argsL := [(.int (Int32.ofNat ((HD + CN) % 17))), (.int (Int32.ofNat HD)), (.int (17 : Int32))]) (rest := []) (lenOf pd_11_0 rfl) rfl (by show 2 * 0 + _ ≤ _; exact Nat.le_of_eq rfl) (hb hby d11_13) (fun _ _ => ⟨rfl, e103, (by decide : 0 + 0 ≤ _), (by decide : 0 + 0 ≤ _)⟩)
  dsimp only [Pt.U, Pt.locs, Pt.cells, Pt.slots] at X105 l105 y105 z105 st105 hQ105
  subst l105 y105 z105
  obtain ⟨rfl, N105q, K105⟩ := hQ105
  have N105 := Fr.app N0 N105q
  have pre106 : ∀ t, Steps p.tables e below (T105.setTop (mkF m 16 #[.val (.ref A0)] [(.int (Int32.ofNat CN))])) t → Steps p.tables e below (s₁.setTop (entryFrame m #[(.ref A0)] 1)) t := fun t kt => pre0 t (by
      show Steps p.tables e below (s₁.setTop (mkF m 0 #[.val (.ref A0)] [])) _
      refine XS.aloadN X0.here hx rfl (hb hby d11_0) rfl rfl ?_
      show Steps p.tables e below (s₁.setTop (mkF m 1 #[.val (.ref A0)] [(.ref A0)])) _
      refine st101 _ ?_
      show Steps p.tables e below (T101.setTop (mkF m 4 #[.val (.ref A0)] [(.int (Int32.ofNat ((HD + CN) % 17)))])) _
      refine XS.aloadN X101.here hx rfl (hb hby d11_4) rfl rfl ?_
      show Steps p.tables e below (T101.setTop (mkF m 5 #[.val (.ref A0)] [(.ref A0), (.int (Int32.ofNat ((HD + CN) % 17)))])) _
      refine st102 _ ?_
      show Steps p.tables e below (T102.setTop (mkF m 8 #[.val (.ref A0)] [(.int (Int32.ofNat HD)), (.int (Int32.ofNat ((HD + CN) % 17)))])) _
      refine XS.aloadN X102.here hx rfl (hb hby d11_8) rfl rfl ?_
      show Steps p.tables e below (T102.setTop (mkF m 9 #[.val (.ref A0)] [(.ref A0), (.int (Int32.ofNat HD)), (.int (Int32.ofNat ((HD + CN) % 17)))])) _
      refine st103 _ ?_
      show Steps p.tables e below (T103.setTop (mkF m 12 #[.val (.ref A0)] [(.ref E0), (.int (Int32.ofNat HD)), (.int (Int32.ofNat ((HD + CN) % 17)))])) _
      refine X103.arraylength hx (by rw [e103]; exact Ar104.1) (State.isArrayOf_alike hZ.alike Ar104.2.1) (g := (mkF m 12 #[.val (.ref A0)] [(.ref E0), (.int (Int32.ofNat HD)), (.int (Int32.ofNat ((HD + CN) % 17)))])) rfl rfl (hb hby d11_12) _ ?_
      rw [show cl104.slots.size.toInt32 = (17 : Int32) from by rw [S104] <;> rfl]
      show Steps p.tables e below (T103.setTop (mkF m 13 #[.val (.ref A0)] [(.int (17 : Int32)), (.int (Int32.ofNat HD)), (.int (Int32.ofNat ((HD + CN) % 17)))])) _
      refine st105 _ ?_
      exact kt)
  obtain ⟨fs, hr, hrun, hended, hW, hsame⟩ := X105.leave (v := some (.int (Int32.ofNat CN))) (fun h => by rw [Bd.returns] at h; cases h)
  refine ⟨_, _, pre106 _ ?_, hrun, hended, _, _, rfl, ?_, ⟨_, rfl⟩, hW, hsame.mono (by decide) (by decide)⟩
  · show Steps p.tables e below (T105.setTop (mkF m 16 #[.val (.ref A0)] [(.int (Int32.ofNat CN))])) _
    exact retI X105 hx Bd.returns (hb hby d11_16) hr
  · show Q11 Z A0 E0 FF HD CN h0 n0 _ T105.heap _
    rw [K105]
    exact ⟨rfl, N105, rfl⟩
theorem d15_0 : decode jdk_21_method_10_code 0 = .ok (.aload_n 0, 1) := by decide +kernel
theorem d15_1 : decode jdk_21_method_10_code 1 = .ok (.iload_n 1, 1) := by decide +kernel
theorem d15_2 : decode jdk_21_method_10_code 2 = .ok (.aaload, 1) := by decide +kernel
theorem d15_3 : decode jdk_21_method_10_code 3 = .ok (.areturn, 1) := by decide +kernel
theorem pn_15 : plainName "java/util/ArrayDeque" = true := by first | (simp [plainName, overriddenIn]; done) | decide +kernel
theorem ef_eN (m : MethodId) (A0 : Addr) : entryFrame m #[(.ref A0), (.int (Int32.ofNat HD))] 2 = mkF m 0 #[.val (.ref A0), .val (.int (Int32.ofNat HD))] [] := by first | (simp [entryFrame, mkF, argsToLocals, Value.category]; done) | rfl
def QeN (Z : State) (A0 : Addr) (FF : Nat → Value) (HD : Nat) (h0 : Heap) (n0 : Nat) (v : Option Value) (h : Heap) (L : List Loc) : Prop := (v = some .null) ∧ (Fr n0 L) ∧ (h = h0)
set_option maxRecDepth 65536 in
set_option maxHeartbeats 40000000 in
theorem rmeN (l : Launch) (Z : State) (a0 : Array Value) (hw : ∀ d ∈ tables_1, d.before a0 Z = true) (ws : List Jvm.Cond) (A0 : Addr) (FF : Nat → Value) (HD : Nat) (h0 : Heap) (n0 : Nat) (Z0 : n0 ≤ h0.size) (pm0 : own_El Z h0 A0 FF) (ht : HD < 17) (hv : FF HD = Value.null) :
    MetFree l (⟨"java/util/ArrayDeque", "elementAt", "([Ljava/lang/Object;I)Ljava/lang/Object;"⟩ : MethodName) (head1 (Jvm.Cond.code (⟨"java/util/ArrayDeque", "elementAt", "([Ljava/lang/Object;I)Ljava/lang/Object;"⟩ : MethodName) jdk_21_method_10_code 2 (some (.object "java/lang/Object")) :: ws) ({ frames := 0, cells := 0, slots := 0, locals := 0 } : Room)) (fun a U => a = #[(.ref A0), (.int (Int32.ofNat HD))] ∧ Z.Warmed39 U.vm ∧ U.heap = h0) (fun _ _ _ _ _ => True) (fun _ U o U' => ∃ v L, o = .returned v ∧ QeN Z A0 FF HD h0 n0 v U'.heap L ∧ FrameEnd U o U' L ({ frames := 0, cells := 0, slots := 0, locals := 0 } : Room).cells ({ frames := 0, cells := 0, slots := 0, locals := 0 } : Room).slots) := by
  refine MetFree.of_bodySF (plainFor_of_name pn_15) hisR ?_
  intro p e s m args below meth c s₁ Bd hml0 hP hK
  obtain ⟨rfl, hZ, hh⟩ := hP
  have hx := Bd.exec
  have hby := Bd.bytes
  have hml : c.maxLocals = 2 := hml0
  have hown : s.vm.findClass "java/util/ArrayDeque" = some m.cls := findClass_of_methodNamed Bd.named
  have hnm := (name_of_methodNamed Bd.named Bd.method).1
  have X0 : Stand p l e ({ frames := 0, cells := 0, slots := 0, locals := 0 } : Room) s m #[(.ref A0), (.int (Int32.ofNat HD))] below meth c s₁ [] 0 0 := Stand.of_body Bd
  have e0 : s₁.heap = h0 := by rw [← hh, Bd.state]; rfl
  have N0 := Fr.nil n0
  have pre0 : ∀ t, Steps p.tables e below (s₁.setTop (mkF m 0 #[.val (.ref A0), .val (.int (Int32.ofNat HD))] [])) t → Steps p.tables e below (s₁.setTop (entryFrame m #[(.ref A0), (.int (Int32.ofNat HD))] 2)) t := fun t k => castTop (ef_eN m A0) k
  obtain ⟨cl101, Ar101, -, S101, H101, -⟩ := id pm0
  have pre102 : ∀ t, Steps p.tables e below (s₁.setTop (mkF m 3 #[.val (.ref A0), .val (.int (Int32.ofNat HD))] [.null])) t → Steps p.tables e below (s₁.setTop (entryFrame m #[(.ref A0), (.int (Int32.ofNat HD))] 2)) t := fun t kt => pre0 t (by
      show Steps p.tables e below (s₁.setTop (mkF m 0 #[.val (.ref A0), .val (.int (Int32.ofNat HD))] [])) _
      refine XS.aloadN X0.here hx rfl (hb hby d15_0) rfl rfl ?_
      show Steps p.tables e below (s₁.setTop (mkF m 1 #[.val (.ref A0), .val (.int (Int32.ofNat HD))] [(.ref A0)])) _
      refine XS.iloadN X0.here hx rfl (hb hby d15_1) rfl ?_
      show Steps p.tables e below (s₁.setTop (mkF m 2 #[.val (.ref A0), .val (.int (Int32.ofNat HD))] [(.int (Int32.ofNat HD)), (.ref A0)])) _
      refine X0.aaload hx (j := (Int32.ofNat HD)) (v := .null) (by rw [e0]; exact Ar101.1) (State.isArrayOf_alike hZ.alike Ar101.2.1) rfl Ar101.2.2 (own_in ht S101) (by rw [own_cl (by omega), H101 _ ht, hv]) (g := (mkF m 2 #[.val (.ref A0), .val (.int (Int32.ofNat HD))] [(.int (Int32.ofNat HD)), (.ref A0)])) rfl rfl (hb hby d15_2) _ ?_
      exact kt)
  obtain ⟨fs, hr, hrun, hended, hW, hsame⟩ := X0.leave (v := some .null) (fun h => by rw [Bd.returns] at h; cases h)
  refine ⟨_, _, pre102 _ ?_, hrun, hended, _, _, rfl, ?_, ⟨_, rfl⟩, hW, hsame.mono (by decide) (by decide)⟩
  · show Steps p.tables e below (s₁.setTop (mkF m 3 #[.val (.ref A0), .val (.int (Int32.ofNat HD))] [.null])) _
    exact retOut X0 hx Bd.returns rfl (Or.inr (Or.inr (Or.inr (Or.inr ⟨rfl, rfl, rfl⟩)))) (hb hby d15_3) hr
  · show QeN Z A0 FF HD h0 n0 _ s₁.heap _
    rw [e0]
    exact ⟨rfl, N0, rfl⟩
theorem ef_eR (m : MethodId) (A0 : Addr) : entryFrame m #[(.ref A0), (.int (Int32.ofNat HD))] 2 = mkF m 0 #[.val (.ref A0), .val (.int (Int32.ofNat HD))] [] := by first | (simp [entryFrame, mkF, argsToLocals, Value.category]; done) | rfl
def QeR (Z : State) (A0 : Addr) (FF : Nat → Value) (HD : Nat) (Y0 : Addr) (h0 : Heap) (n0 : Nat) (v : Option Value) (h : Heap) (L : List Loc) : Prop := (v = some (.ref Y0)) ∧ (Fr n0 L) ∧ (h = h0)
set_option maxRecDepth 65536 in
set_option maxHeartbeats 40000000 in
theorem rmeR (l : Launch) (Z : State) (a0 : Array Value) (hw : ∀ d ∈ tables_1, d.before a0 Z = true) (ws : List Jvm.Cond) (A0 : Addr) (FF : Nat → Value) (HD : Nat) (Y0 : Addr) (h0 : Heap) (n0 : Nat) (Z0 : n0 ≤ h0.size) (pm0 : own_El Z h0 A0 FF) (ht : HD < 17) (hv : FF HD = Value.ref Y0) :
    MetFree l (⟨"java/util/ArrayDeque", "elementAt", "([Ljava/lang/Object;I)Ljava/lang/Object;"⟩ : MethodName) (head1 (Jvm.Cond.code (⟨"java/util/ArrayDeque", "elementAt", "([Ljava/lang/Object;I)Ljava/lang/Object;"⟩ : MethodName) jdk_21_method_10_code 2 (some (.object "java/lang/Object")) :: ws) ({ frames := 0, cells := 0, slots := 0, locals := 0 } : Room)) (fun a U => a = #[(.ref A0), (.int (Int32.ofNat HD))] ∧ Z.Warmed39 U.vm ∧ U.heap = h0) (fun _ _ _ _ _ => True) (fun _ U o U' => ∃ v L, o = .returned v ∧ QeR Z A0 FF HD Y0 h0 n0 v U'.heap L ∧ FrameEnd U o U' L ({ frames := 0, cells := 0, slots := 0, locals := 0 } : Room).cells ({ frames := 0, cells := 0, slots := 0, locals := 0 } : Room).slots) := by
  refine MetFree.of_bodySF (plainFor_of_name pn_15) hisR ?_
  intro p e s m args below meth c s₁ Bd hml0 hP hK
  obtain ⟨rfl, hZ, hh⟩ := hP
  have hx := Bd.exec
  have hby := Bd.bytes
  have hml : c.maxLocals = 2 := hml0
  have hown : s.vm.findClass "java/util/ArrayDeque" = some m.cls := findClass_of_methodNamed Bd.named
  have hnm := (name_of_methodNamed Bd.named Bd.method).1
  have X0 : Stand p l e ({ frames := 0, cells := 0, slots := 0, locals := 0 } : Room) s m #[(.ref A0), (.int (Int32.ofNat HD))] below meth c s₁ [] 0 0 := Stand.of_body Bd
  have e0 : s₁.heap = h0 := by rw [← hh, Bd.state]; rfl
  have N0 := Fr.nil n0
  have pre0 : ∀ t, Steps p.tables e below (s₁.setTop (mkF m 0 #[.val (.ref A0), .val (.int (Int32.ofNat HD))] [])) t → Steps p.tables e below (s₁.setTop (entryFrame m #[(.ref A0), (.int (Int32.ofNat HD))] 2)) t := fun t k => castTop (ef_eR m A0) k
  obtain ⟨cl101, Ar101, -, S101, H101, -⟩ := id pm0
  have pre102 : ∀ t, Steps p.tables e below (s₁.setTop (mkF m 3 #[.val (.ref A0), .val (.int (Int32.ofNat HD))] [(.ref Y0)])) t → Steps p.tables e below (s₁.setTop (entryFrame m #[(.ref A0), (.int (Int32.ofNat HD))] 2)) t := fun t kt => pre0 t (by
      show Steps p.tables e below (s₁.setTop (mkF m 0 #[.val (.ref A0), .val (.int (Int32.ofNat HD))] [])) _
      refine XS.aloadN X0.here hx rfl (hb hby d15_0) rfl rfl ?_
      show Steps p.tables e below (s₁.setTop (mkF m 1 #[.val (.ref A0), .val (.int (Int32.ofNat HD))] [(.ref A0)])) _
      refine XS.iloadN X0.here hx rfl (hb hby d15_1) rfl ?_
      show Steps p.tables e below (s₁.setTop (mkF m 2 #[.val (.ref A0), .val (.int (Int32.ofNat HD))] [(.int (Int32.ofNat HD)), (.ref A0)])) _
      refine X0.aaload hx (j := (Int32.ofNat HD)) (v := (.ref Y0)) (by rw [e0]; exact Ar101.1) (State.isArrayOf_alike hZ.alike Ar101.2.1) rfl Ar101.2.2 (own_in ht S101) (by rw [own_cl (by omega), H101 _ ht, hv]) (g := (mkF m 2 #[.val (.ref A0), .val (.int (Int32.ofNat HD))] [(.int (Int32.ofNat HD)), (.ref A0)])) rfl rfl (hb hby d15_2) _ ?_
      exact kt)
  obtain ⟨fs, hr, hrun, hended, hW, hsame⟩ := X0.leave (v := some (.ref Y0)) (fun h => by rw [Bd.returns] at h; cases h)
  refine ⟨_, _, pre102 _ ?_, hrun, hended, _, _, rfl, ?_, ⟨_, rfl⟩, hW, hsame.mono (by decide) (by decide)⟩
  · show Steps p.tables e below (s₁.setTop (mkF m 3 #[.val (.ref A0), .val (.int (Int32.ofNat HD))] [(.ref Y0)])) _
    exact retOut X0 hx Bd.returns rfl (Or.inr (Or.inr (Or.inr (Or.inr ⟨rfl, rfl, rfl⟩)))) (hb hby d15_3) hr
  · show QeR Z A0 FF HD Y0 h0 n0 _ s₁.heap _
    rw [e0]
    exact ⟨rfl, N0, rfl⟩
theorem d9_0 : decode jdk_21_method_13_code 0 = .ok (.aload_n 1, 1) := by decide +kernel
theorem d9_1 : decode jdk_21_method_13_code 1 = .ok (.ifnonnull 11, 3) := by decide +kernel
theorem d9_12 : decode jdk_21_method_13_code 12 = .ok (.aload_n 0, 1) := by decide +kernel
theorem d9_13 : decode jdk_21_method_13_code 13 = .ok (.getfield 3, 3) := by decide +kernel
theorem d9_16 : decode jdk_21_method_13_code 16 = .ok (.astore_n 2, 1) := by decide +kernel
theorem d9_17 : decode jdk_21_method_13_code 17 = .ok (.aload_n 2, 1) := by decide +kernel
theorem d9_18 : decode jdk_21_method_13_code 18 = .ok (.aload_n 0, 1) := by decide +kernel
theorem d9_19 : decode jdk_21_method_13_code 19 = .ok (.getfield 20, 3) := by decide +kernel
theorem d9_22 : decode jdk_21_method_13_code 22 = .ok (.aload_n 1, 1) := by decide +kernel
theorem d9_23 : decode jdk_21_method_13_code 23 = .ok (.aastore, 1) := by decide +kernel
theorem d9_24 : decode jdk_21_method_13_code 24 = .ok (.aload_n 0, 1) := by decide +kernel
theorem d9_25 : decode jdk_21_method_13_code 25 = .ok (.getfield 24, 3) := by decide +kernel
theorem d9_28 : decode jdk_21_method_13_code 28 = .ok (.aload_n 0, 1) := by decide +kernel
theorem d9_29 : decode jdk_21_method_13_code 29 = .ok (.aload_n 0, 1) := by decide +kernel
theorem d9_30 : decode jdk_21_method_13_code 30 = .ok (.getfield 20, 3) := by decide +kernel
theorem d9_33 : decode jdk_21_method_13_code 33 = .ok (.aload_n 2, 1) := by decide +kernel
theorem d9_34 : decode jdk_21_method_13_code 34 = .ok (.arraylength, 1) := by decide +kernel
theorem d9_35 : decode jdk_21_method_13_code 35 = .ok (.invokestatic 74, 3) := by decide +kernel
theorem d9_38 : decode jdk_21_method_13_code 38 = .ok (.dup_x1, 1) := by decide +kernel
theorem d9_39 : decode jdk_21_method_13_code 39 = .ok (.putfield 20, 3) := by decide +kernel
theorem d9_42 : decode jdk_21_method_13_code 42 = .ok (.if_icmp .ne 8, 3) := by decide +kernel
theorem d9_50 : decode jdk_21_method_13_code 50 = .ok (.return_, 1) := by decide +kernel
theorem pn_9 : plainName "java/util/ArrayDeque" = true := by first | (simp [plainName, overriddenIn]; done) | decide +kernel
theorem pd_9_0 : parseMethodDescriptor "(II)I" = some ⟨[.int, .int], some .int⟩ := by decide +kernel
theorem ef_9 (m : MethodId) (A0 : Addr) (A1 : Addr) : entryFrame m #[(.ref A0), (.ref A1)] 3 = mkF m 0 #[.val (.ref A0), .val (.ref A1), .unset] [] := by first | (simp [entryFrame, mkF, argsToLocals, Value.category]; done) | rfl
def Q9 (Z : State) (A0 : Addr) (A1 : Addr) (E0 : Addr) (FF : Nat → Value) (HD : Nat) (CN : Nat) (h0 : Heap) (n0 : Nat) (v : Option Value) (h : Heap) (L : List Loc) : Prop := (v = none) ∧ (Fr n0 L) ∧ (Keep h0 h [A0, E0]) ∧ (Exa Z h A0 "java/util/ArrayDeque") ∧ (Fld Z h A0 "java/util/ArrayDeque" "elements" "[Ljava/lang/Object;" (.ref E0)) ∧ (Fld Z h A0 "java/util/ArrayDeque" "head" "I" (.int (Int32.ofNat HD))) ∧ (Fld Z h A0 "java/util/ArrayDeque" "tail" "I" (.int (Int32.ofNat ((HD + (CN + 1)) % 17)))) ∧ (own_El Z h E0 (own_up FF ((HD + CN) % 17) (.ref A1))) ∧ (own_Dq (own_up FF ((HD + CN) % 17) (.ref A1)) HD (CN + 1))
set_option maxRecDepth 65536 in
set_option maxHeartbeats 40000000 in
theorem rm9 (l : Launch) (Z : State) (a0 : Array Value) (hw : ∀ d ∈ tables_1, d.before a0 Z = true) (ws : List Jvm.Cond) (A0 : Addr) (A1 : Addr) (E0 : Addr) (FF : Nat → Value) (HD : Nat) (CN : Nat) (h0 : Heap) (n0 : Nat) (Z0 : n0 ≤ h0.size) (pm0 : Exa Z h0 A0 "java/util/ArrayDeque") (pm1 : Fld Z h0 A0 "java/util/ArrayDeque" "elements" "[Ljava/lang/Object;" (.ref E0)) (pm2 : Fld Z h0 A0 "java/util/ArrayDeque" "head" "I" (.int (Int32.ofNat HD))) (pm3 : Fld Z h0 A0 "java/util/ArrayDeque" "tail" "I" (.int (Int32.ofNat ((HD + CN) % 17)))) (pm4 : own_El Z h0 E0 FF) (pm5 : Exa Z h0 A1 "java/lang/Integer") (hq : own_Dq FF HD CN) (hc : CN + 1 ≤ 4) (nDE : A0 ≠ E0) (g_A0 : n0 ≤ A0) (g_E0 : n0 ≤ E0) :
    MetFree l (⟨"java/util/ArrayDeque", "addLast", "(Ljava/lang/Object;)V"⟩ : MethodName) (head1 (Jvm.Cond.code (⟨"java/util/ArrayDeque", "addLast", "(Ljava/lang/Object;)V"⟩ : MethodName) jdk_21_method_13_code 3 none :: ws) ({ frames := 1, cells := 0, slots := 0, locals := 15 } : Room)) (fun a U => a = #[(.ref A0), (.ref A1)] ∧ Z.Warmed39 U.vm ∧ U.heap = h0) (fun _ _ _ _ _ => True) (fun _ U o U' => ∃ v L, o = .returned v ∧ Q9 Z A0 A1 E0 FF HD CN h0 n0 v U'.heap L ∧ FrameEnd U o U' L ({ frames := 1, cells := 0, slots := 0, locals := 15 } : Room).cells ({ frames := 1, cells := 0, slots := 0, locals := 15 } : Room).slots) := by
  refine MetFree.of_bodySF (plainFor_of_name pn_9) hisR ?_
  intro p e s m args below meth c s₁ Bd hml0 hP hK
  obtain ⟨rfl, hZ, hh⟩ := hP
  have hx := Bd.exec
  have hby := Bd.bytes
  have hml : c.maxLocals = 3 := hml0
  have hown : s.vm.findClass "java/util/ArrayDeque" = some m.cls := findClass_of_methodNamed Bd.named
  have hnm := (name_of_methodNamed Bd.named Bd.method).1
  have X0 : Stand p l e ({ frames := 1, cells := 0, slots := 0, locals := 15 } : Room) s m #[(.ref A0), (.ref A1)] below meth c s₁ [] 0 0 := Stand.of_body Bd
  have e0 : s₁.heap = h0 := by rw [← hh, Bd.state]; rfl
  have N0 := Fr.nil n0
  have pre0 : ∀ t, Steps p.tables e below (s₁.setTop (mkF m 0 #[.val (.ref A0), .val (.ref A1), .unset] [])) t → Steps p.tables e below (s₁.setTop (entryFrame m #[(.ref A0), (.ref A1)] 3)) t := fun t k => castTop (ef_9 m A0 A1) k
  have K_0 : Keep h0 h0 [A0, E0] := Keep.refl h0 _
  have hq1 := hq.1
  have hq2 := hq.2.1
  obtain ⟨T101, X101, e101, st101⟩ := getF X0 hx hZ hown (host := "") (Or.inl (hw _ (List.mem_of_getElem? (i := 24) rfl))) Via.refl e0 pm1 (g := (mkF m 13 #[.val (.ref A0), .val (.ref A1), .unset] [(.ref A0)])) rfl rfl (hb hby d9_13)
  obtain ⟨T102, X102, e102, st102⟩ := getF X101 hx hZ hown (host := "") (Or.inl (hw _ (List.mem_of_getElem? (i := 60) rfl))) Via.refl e101 pm3 (g := (mkF m 19 #[.val (.ref A0), .val (.ref A1), .val (.ref E0)] [(.ref A0), (.ref E0)])) rfl rfl (hb hby d9_19)
  obtain ⟨cl103, Ar103, Ov103, S103, Hq103, Rq103⟩ := id pm4
  have lt103 : ((HD + CN) % 17) < 17 := by omega
  obtain ⟨T104, h104, X104, e104, W104, st104⟩ := stR X102 hx hZ e102 Ar103 (j := (Int32.ofNat ((HD + CN) % 17))) (own_in lt103 S103) rfl (own_sto Ar103 Ov103 (Ins.of_exa pm5 (hw _ (List.mem_of_getElem? (i := 62) rfl)))) (g := (mkF m 23 #[.val (.ref A0), .val (.ref A1), .val (.ref E0)] [(.ref A1), (.int (Int32.ofNat ((HD + CN) % 17))), (.ref E0)])) rfl rfl (hb hby d9_23)
  rw [own_cl (show ((HD + CN) % 17) < 100 by omega)] at W104
  have Z105 : n0 ≤ h104.size := Nat.le_trans Z0 (Nat.le_of_eq W104.size.symm)
  have K_105 : Keep h0 h104 [A0, E0] := K_0.wr W104 (Or.inl (List.mem_of_getElem? (i := 1) rfl))
  have V104 : own_El Z h104 E0 (own_up FF ((HD + CN) % 17) (.ref A1)) := own_El.set pm4 W104 (Or.inr ⟨_, rfl, pm5⟩)
  have N104 := Fr.snoc X104 N0 g_E0
  have c106 : Fld Z h104 A0 "java/util/ArrayDeque" "head" "I" (.int (Int32.ofNat HD)) := (pm2.other W104 (Or.inl nDE))
  obtain ⟨T107, X107, e107, st107⟩ := getF X104 hx hZ hown (host := "") (Or.inl (hw _ (List.mem_of_getElem? (i := 63) rfl))) Via.refl e104 c106 (g := (mkF m 25 #[.val (.ref A0), .val (.ref A1), .val (.ref E0)] [(.ref A0)])) rfl rfl (hb hby d9_25)
  have c108 : Fld Z h104 A0 "java/util/ArrayDeque" "tail" "I" (.int (Int32.ofNat ((HD + CN) % 17))) := (pm3.other W104 (Or.inl nDE))
  obtain ⟨T109, X109, e109, st109⟩ := getF X107 hx hZ hown (host := "") (Or.inl (hw _ (List.mem_of_getElem? (i := 60) rfl))) Via.refl e107 c108 (g := (mkF m 30 #[.val (.ref A0), .val (.ref A1), .val (.ref E0)] [(.ref A0), (.ref A0), (.int (Int32.ofNat HD))])) rfl rfl (hb hby d9_30)
  obtain ⟨cl110, Ar110, -, S110, -, -⟩ := id V104
  obtain ⟨_, _, ⟨T111, L111, k111, n111⟩, -, X111, ⟨Lc111, hQ111, l111, y111, z111⟩, st111⟩ := Jvm.LawKit.callS X109 hx (y := (⟨"java/util/ArrayDeque", "inc", "(II)I"⟩ : MethodName)) hown (mvT hZ (hw _ (List.mem_of_getElem? (i := 65) rfl))) (mvT hZ (hw _ (List.mem_of_getElem? (i := 66) rfl))) (mvT hZ (hw _ (List.mem_of_getElem? (i := 11) rfl))) (mvT hZ (hw _ (List.mem_of_getElem? (i := 67) rfl))) (by decide) (backOf (W := 2) (rm10 l Z a0 hw [] ((HD + CN) % 17) h104 n0 Z105 (show ((HD + CN) % 17) < 17 from (by omega))) hZ (hw _ (List.mem_of_getElem? (i := 67) rfl)) (hw _ (List.mem_of_getElem? (i := 11) rfl)) (by decide) (by decide)) (g := (mkF m 35 #[.val (.ref A0), .val (.ref A1), .val (.ref E0)] [(.int (17 : Int32)), (.int (Int32.ofNat ((HD + CN) % 17))), (.ref A0), (.int (Int32.ofNat HD))])) rfl (by rw [hml]; rfl) (argsL := [(.int (Int32.ofNat ((HD + CN) % 17))), (.int (17 : Int32))]) (rest := [(.ref A0), (.int (Int32.ofNat HD))]) (lenOf pd_9_0 rfl) rfl (by show 2 * 0 + _ ≤ _; exact Nat.le_of_eq rfl) (hb hby d9_35) (fun _ _ => ⟨rfl, e109, (by decide : 0 + 0 ≤ _), (by decide : 0 + 0 ≤ _)⟩)
  dsimp only [Pt.U, Pt.locs, Pt.cells, Pt.slots] at X111 l111 y111 z111 st111 hQ111
  subst l111 y111 z111
  obtain ⟨rfl, N111q, K111⟩ := hQ111
  have N111 := Fr.app N104 N111q
  have c112 : Exa Z h104 A0 "java/util/ArrayDeque" := (pm0.wr W104)
  obtain ⟨T113, h113, X113, e113, W113, st113⟩ := putF X111 hx hZ hown (host := "") (Or.inl (hw _ (List.mem_of_getElem? (i := 60) rfl))) Via.refl K111 c108 c112 (Or.inl (hw _ (List.mem_of_getElem? (i := 61) rfl))) (hw _ (List.mem_of_getElem? (i := 10) rfl)) (ty := .int) (by decide) rfl rfl (g := (mkF m 39 #[.val (.ref A0), .val (.ref A1), .val (.ref E0)] [(.int (Int32.ofNat ((((HD + CN) % 17) + 1) % 17))), (.ref A0), (.int (Int32.ofNat ((((HD + CN) % 17) + 1) % 17))), (.int (Int32.ofNat HD))])) rfl rfl (hb hby d9_39)
  have Z114 : n0 ≤ h113.size := Nat.le_trans Z105 (Nat.le_of_eq W113.size.symm)
  have K_114 : Keep h0 h113 [A0, E0] := K_105.wr W113 (Or.inl (List.mem_of_getElem? (i := 0) rfl))
  have Fw113 : Fld Z h113 A0 "java/util/ArrayDeque" "tail" "I" (.int (Int32.ofNat ((((HD + CN) % 17) + 1) % 17))) := c108.same W113
  have N113 := Fr.snoc X113 N111 g_A0
  have pre115 : ∀ t, Steps p.tables e below (T113.setTop (mkF m 50 #[.val (.ref A0), .val (.ref A1), .val (.ref E0)] [])) t → Steps p.tables e below (s₁.setTop (entryFrame m #[(.ref A0), (.ref A1)] 3)) t := fun t kt => pre0 t (by
      show Steps p.tables e below (s₁.setTop (mkF m 0 #[.val (.ref A0), .val (.ref A1), .unset] [])) _
      refine XS.aloadN X0.here hx rfl (hb hby d9_0) rfl rfl ?_
      show Steps p.tables e below (s₁.setTop (mkF m 1 #[.val (.ref A0), .val (.ref A1), .unset] [(.ref A1)])) _
      refine XS.ifnonnullYes X0.here hx rfl (pc0 := 1) (pc' := 12) rfl (hb hby d9_1) rfl (by decide) (by decide) ?_
      show Steps p.tables e below (s₁.setTop (mkF m 12 #[.val (.ref A0), .val (.ref A1), .unset] [])) _
      refine XS.aloadN X0.here hx rfl (hb hby d9_12) rfl rfl ?_
      show Steps p.tables e below (s₁.setTop (mkF m 13 #[.val (.ref A0), .val (.ref A1), .unset] [(.ref A0)])) _
      refine st101 _ ?_
      show Steps p.tables e below (T101.setTop (mkF m 16 #[.val (.ref A0), .val (.ref A1), .unset] [(.ref E0)])) _
      refine XS.astoreN X101.here hx rfl (hb hby d9_16) rfl rfl (l' := #[.val (.ref A0), .val (.ref A1), .val (.ref E0)]) rfl ?_
      show Steps p.tables e below (T101.setTop (mkF m 17 #[.val (.ref A0), .val (.ref A1), .val (.ref E0)] [])) _
      refine XS.aloadN X101.here hx rfl (hb hby d9_17) rfl rfl ?_
      show Steps p.tables e below (T101.setTop (mkF m 18 #[.val (.ref A0), .val (.ref A1), .val (.ref E0)] [(.ref E0)])) _
      refine XS.aloadN X101.here hx rfl (hb hby d9_18) rfl rfl ?_
      show Steps p.tables e below (T101.setTop (mkF m 19 #[.val (.ref A0), .val (.ref A1), .val (.ref E0)] [(.ref A0), (.ref E0)])) _
      refine st102 _ ?_
      show Steps p.tables e below (T102.setTop (mkF m 22 #[.val (.ref A0), .val (.ref A1), .val (.ref E0)] [(.int (Int32.ofNat ((HD + CN) % 17))), (.ref E0)])) _
      refine XS.aloadN X102.here hx rfl (hb hby d9_22) rfl rfl ?_
      show Steps p.tables e below (T102.setTop (mkF m 23 #[.val (.ref A0), .val (.ref A1), .val (.ref E0)] [(.ref A1), (.int (Int32.ofNat ((HD + CN) % 17))), (.ref E0)])) _
      refine st104 _ ?_
      show Steps p.tables e below (T104.setTop (mkF m 24 #[.val (.ref A0), .val (.ref A1), .val (.ref E0)] [])) _
      refine XS.aloadN X104.here hx rfl (hb hby d9_24) rfl rfl ?_
      show Steps p.tables e below (T104.setTop (mkF m 25 #[.val (.ref A0), .val (.ref A1), .val (.ref E0)] [(.ref A0)])) _
      refine st107 _ ?_
      show Steps p.tables e below (T107.setTop (mkF m 28 #[.val (.ref A0), .val (.ref A1), .val (.ref E0)] [(.int (Int32.ofNat HD))])) _
      refine XS.aloadN X107.here hx rfl (hb hby d9_28) rfl rfl ?_
      show Steps p.tables e below (T107.setTop (mkF m 29 #[.val (.ref A0), .val (.ref A1), .val (.ref E0)] [(.ref A0), (.int (Int32.ofNat HD))])) _
      refine XS.aloadN X107.here hx rfl (hb hby d9_29) rfl rfl ?_
      show Steps p.tables e below (T107.setTop (mkF m 30 #[.val (.ref A0), .val (.ref A1), .val (.ref E0)] [(.ref A0), (.ref A0), (.int (Int32.ofNat HD))])) _
      refine st109 _ ?_
      show Steps p.tables e below (T109.setTop (mkF m 33 #[.val (.ref A0), .val (.ref A1), .val (.ref E0)] [(.int (Int32.ofNat ((HD + CN) % 17))), (.ref A0), (.int (Int32.ofNat HD))])) _
      refine XS.aloadN X109.here hx rfl (hb hby d9_33) rfl rfl ?_
      show Steps p.tables e below (T109.setTop (mkF m 34 #[.val (.ref A0), .val (.ref A1), .val (.ref E0)] [(.ref E0), (.int (Int32.ofNat ((HD + CN) % 17))), (.ref A0), (.int (Int32.ofNat HD))])) _
      refine X109.arraylength hx (by rw [e109]; exact Ar110.1) (State.isArrayOf_alike hZ.alike Ar110.2.1) (g := (mkF m 34 #[.val (.ref A0), .val (.ref A1), .val (.ref E0)] [(.ref E0), (.int (Int32.ofNat ((HD + CN) % 17))), (.ref A0), (.int (Int32.ofNat HD))])) rfl rfl (hb hby d9_34) _ ?_
      rw [show cl110.slots.size.toInt32 = (17 : Int32) from by rw [S110] <;> rfl]
      show Steps p.tables e below (T109.setTop (mkF m 35 #[.val (.ref A0), .val (.ref A1), .val (.ref E0)] [(.int (17 : Int32)), (.int (Int32.ofNat ((HD + CN) % 17))), (.ref A0), (.int (Int32.ofNat HD))])) _
      refine st111 _ ?_
      show Steps p.tables e below (T111.setTop (mkF m 38 #[.val (.ref A0), .val (.ref A1), .val (.ref E0)] [(.int (Int32.ofNat ((((HD + CN) % 17) + 1) % 17))), (.ref A0), (.int (Int32.ofNat HD))])) _
      refine XS.dupX1 X111.here hx rfl (hb hby d9_38) rfl rfl rfl ?_
      show Steps p.tables e below (T111.setTop (mkF m 39 #[.val (.ref A0), .val (.ref A1), .val (.ref E0)] [(.int (Int32.ofNat ((((HD + CN) % 17) + 1) % 17))), (.ref A0), (.int (Int32.ofNat ((((HD + CN) % 17) + 1) % 17))), (.int (Int32.ofNat HD))])) _
      refine st113 _ ?_
      show Steps p.tables e below (T113.setTop (mkF m 42 #[.val (.ref A0), .val (.ref A1), .val (.ref E0)] [(.int (Int32.ofNat ((((HD + CN) % 17) + 1) % 17))), (.int (Int32.ofNat HD))])) _
      refine XS.icmpYes X113.here hx rfl (pc0 := 42) (pc' := 50) rfl (hb hby d9_42) rfl (feq (show ¬ ((Int32.ofNat HD) = (Int32.ofNat ((((HD + CN) % 17) + 1) % 17))) from own_ne17 (by omega) (by omega) (by omega))).2 (by decide) (by decide) ?_
      exact kt)
  have c116 : Exa Z h113 A0 "java/util/ArrayDeque" := (c112.wr W113)
  have c117 : Fld Z h113 A0 "java/util/ArrayDeque" "elements" "[Ljava/lang/Object;" (.ref E0) := ((pm1.other W104 (Or.inl nDE)).other W113 (Or.inr (slot_ne (Or.inl (hw _ (List.mem_of_getElem? (i := 25) rfl))) (Or.inl (hw _ (List.mem_of_getElem? (i := 61) rfl))) (by decide) (t := (.array (.object "java/lang/Object"))) (t' := .int) (by decide) (by decide))))
  have c118 : Fld Z h113 A0 "java/util/ArrayDeque" "head" "I" (.int (Int32.ofNat HD)) := (c106.other W113 (Or.inr (slot_ne (Or.inl (hw _ (List.mem_of_getElem? (i := 64) rfl))) (Or.inl (hw _ (List.mem_of_getElem? (i := 61) rfl))) (by decide) (t := .int) (t' := .int) (by decide) (by decide))))
  have c119 : own_El Z h113 E0 (own_up FF ((HD + CN) % 17) (.ref A1)) := (V104.other W113 (Ne.symm nDE))
  obtain ⟨fs, hr, hrun, hended, hW, hsame⟩ := X113.leave (v := none) (fun _ => rfl)
  refine ⟨_, _, pre115 _ ?_, hrun, hended, _, _, rfl, ?_, ⟨_, rfl⟩, hW, hsame.mono (by decide) (by decide)⟩
  · show Steps p.tables e below (T113.setTop (mkF m 50 #[.val (.ref A0), .val (.ref A1), .val (.ref E0)] [])) _
    exact X113.returnOut hx Bd.returns (hb hby d9_50) hr
  · show Q9 Z A0 A1 E0 FF HD CN h0 n0 _ T113.heap _
    rw [e113]
    exact ⟨rfl, N113, K_114, c116, c117, c118, (by rw [show ((HD + (CN + 1)) % 17) = ((((HD + CN) % 17) + 1) % 17) from by omega]; exact Fw113), c119, (hq.last hc A1)⟩
theorem d29_0 : decode jdk_21_method_12_code 0 = .ok (.aload_n 1, 1) := by decide +kernel
theorem d29_1 : decode jdk_21_method_12_code 1 = .ok (.ifnonnull 11, 3) := by decide +kernel
theorem d29_12 : decode jdk_21_method_12_code 12 = .ok (.aload_n 0, 1) := by decide +kernel
theorem d29_13 : decode jdk_21_method_12_code 13 = .ok (.getfield 3, 3) := by decide +kernel
theorem d29_16 : decode jdk_21_method_12_code 16 = .ok (.astore_n 2, 1) := by decide +kernel
theorem d29_17 : decode jdk_21_method_12_code 17 = .ok (.aload_n 2, 1) := by decide +kernel
theorem d29_18 : decode jdk_21_method_12_code 18 = .ok (.aload_n 0, 1) := by decide +kernel
theorem d29_19 : decode jdk_21_method_12_code 19 = .ok (.aload_n 0, 1) := by decide +kernel
theorem d29_20 : decode jdk_21_method_12_code 20 = .ok (.getfield 24, 3) := by decide +kernel
theorem d29_23 : decode jdk_21_method_12_code 23 = .ok (.aload_n 2, 1) := by decide +kernel
theorem d29_24 : decode jdk_21_method_12_code 24 = .ok (.arraylength, 1) := by decide +kernel
theorem d29_25 : decode jdk_21_method_12_code 25 = .ok (.invokestatic 68, 3) := by decide +kernel
theorem d29_28 : decode jdk_21_method_12_code 28 = .ok (.dup_x1, 1) := by decide +kernel
theorem d29_29 : decode jdk_21_method_12_code 29 = .ok (.putfield 24, 3) := by decide +kernel
theorem d29_32 : decode jdk_21_method_12_code 32 = .ok (.aload_n 1, 1) := by decide +kernel
theorem d29_33 : decode jdk_21_method_12_code 33 = .ok (.aastore, 1) := by decide +kernel
theorem d29_34 : decode jdk_21_method_12_code 34 = .ok (.aload_n 0, 1) := by decide +kernel
theorem d29_35 : decode jdk_21_method_12_code 35 = .ok (.getfield 24, 3) := by decide +kernel
theorem d29_38 : decode jdk_21_method_12_code 38 = .ok (.aload_n 0, 1) := by decide +kernel
theorem d29_39 : decode jdk_21_method_12_code 39 = .ok (.getfield 20, 3) := by decide +kernel
theorem d29_42 : decode jdk_21_method_12_code 42 = .ok (.if_icmp .ne 8, 3) := by decide +kernel
theorem d29_50 : decode jdk_21_method_12_code 50 = .ok (.return_, 1) := by decide +kernel
theorem pn_29 : plainName "java/util/ArrayDeque" = true := by first | (simp [plainName, overriddenIn]; done) | decide +kernel
theorem pd_29_0 : parseMethodDescriptor "(II)I" = some ⟨[.int, .int], some .int⟩ := by decide +kernel
theorem ef_29 (m : MethodId) (A0 : Addr) (A1 : Addr) : entryFrame m #[(.ref A0), (.ref A1)] 3 = mkF m 0 #[.val (.ref A0), .val (.ref A1), .unset] [] := by first | (simp [entryFrame, mkF, argsToLocals, Value.category]; done) | rfl
def Q29 (Z : State) (A0 : Addr) (A1 : Addr) (E0 : Addr) (FF : Nat → Value) (HD : Nat) (CN : Nat) (h0 : Heap) (n0 : Nat) (v : Option Value) (h : Heap) (L : List Loc) : Prop := (v = none) ∧ (Fr n0 L) ∧ (Keep h0 h [A0, E0]) ∧ (Exa Z h A0 "java/util/ArrayDeque") ∧ (Fld Z h A0 "java/util/ArrayDeque" "elements" "[Ljava/lang/Object;" (.ref E0)) ∧ (Fld Z h A0 "java/util/ArrayDeque" "head" "I" (.int (Int32.ofNat ((HD + 16) % 17)))) ∧ (Fld Z h A0 "java/util/ArrayDeque" "tail" "I" (.int (Int32.ofNat ((((HD + 16) % 17) + (CN + 1)) % 17)))) ∧ (own_El Z h E0 (own_up FF ((HD + 16) % 17) (.ref A1))) ∧ (own_Dq (own_up FF ((HD + 16) % 17) (.ref A1)) ((HD + 16) % 17) (CN + 1))
set_option maxRecDepth 65536 in
set_option maxHeartbeats 40000000 in
theorem rm29 (l : Launch) (Z : State) (a0 : Array Value) (hw : ∀ d ∈ tables_1, d.before a0 Z = true) (ws : List Jvm.Cond) (A0 : Addr) (A1 : Addr) (E0 : Addr) (FF : Nat → Value) (HD : Nat) (CN : Nat) (h0 : Heap) (n0 : Nat) (Z0 : n0 ≤ h0.size) (pm0 : Exa Z h0 A0 "java/util/ArrayDeque") (pm1 : Fld Z h0 A0 "java/util/ArrayDeque" "elements" "[Ljava/lang/Object;" (.ref E0)) (pm2 : Fld Z h0 A0 "java/util/ArrayDeque" "head" "I" (.int (Int32.ofNat HD))) (pm3 : Fld Z h0 A0 "java/util/ArrayDeque" "tail" "I" (.int (Int32.ofNat ((HD + CN) % 17)))) (pm4 : own_El Z h0 E0 FF) (pm5 : Exa Z h0 A1 "java/lang/Integer") (hq : own_Dq FF HD CN) (hc : CN + 1 ≤ 4) (nDE : A0 ≠ E0) (g_A0 : n0 ≤ A0) (g_E0 : n0 ≤ E0) :
    MetFree l (⟨"java/util/ArrayDeque", "addFirst", "(Ljava/lang/Object;)V"⟩ : MethodName) (head1 (Jvm.Cond.code (⟨"java/util/ArrayDeque", "addFirst", "(Ljava/lang/Object;)V"⟩ : MethodName) jdk_21_method_12_code 3 none :: ws) ({ frames := 1, cells := 0, slots := 0, locals := 15 } : Room)) (fun a U => a = #[(.ref A0), (.ref A1)] ∧ Z.Warmed39 U.vm ∧ U.heap = h0) (fun _ _ _ _ _ => True) (fun _ U o U' => ∃ v L, o = .returned v ∧ Q29 Z A0 A1 E0 FF HD CN h0 n0 v U'.heap L ∧ FrameEnd U o U' L ({ frames := 1, cells := 0, slots := 0, locals := 15 } : Room).cells ({ frames := 1, cells := 0, slots := 0, locals := 15 } : Room).slots) := by
  refine MetFree.of_bodySF (plainFor_of_name pn_29) hisR ?_
  intro p e s m args below meth c s₁ Bd hml0 hP hK
  obtain ⟨rfl, hZ, hh⟩ := hP
  have hx := Bd.exec
  have hby := Bd.bytes
  have hml : c.maxLocals = 3 := hml0
  have hown : s.vm.findClass "java/util/ArrayDeque" = some m.cls := findClass_of_methodNamed Bd.named
  have hnm := (name_of_methodNamed Bd.named Bd.method).1
  have X0 : Stand p l e ({ frames := 1, cells := 0, slots := 0, locals := 15 } : Room) s m #[(.ref A0), (.ref A1)] below meth c s₁ [] 0 0 := Stand.of_body Bd
  have e0 : s₁.heap = h0 := by rw [← hh, Bd.state]; rfl
  have N0 := Fr.nil n0
  have pre0 : ∀ t, Steps p.tables e below (s₁.setTop (mkF m 0 #[.val (.ref A0), .val (.ref A1), .unset] [])) t → Steps p.tables e below (s₁.setTop (entryFrame m #[(.ref A0), (.ref A1)] 3)) t := fun t k => castTop (ef_29 m A0 A1) k
  have K_0 : Keep h0 h0 [A0, E0] := Keep.refl h0 _
  have hq1 := hq.1
  have hq2 := hq.2.1
  obtain ⟨T101, X101, e101, st101⟩ := getF X0 hx hZ hown (host := "") (Or.inl (hw _ (List.mem_of_getElem? (i := 24) rfl))) Via.refl e0 pm1 (g := (mkF m 13 #[.val (.ref A0), .val (.ref A1), .unset] [(.ref A0)])) rfl rfl (hb hby d29_13)
  obtain ⟨T102, X102, e102, st102⟩ := getF X101 hx hZ hown (host := "") (Or.inl (hw _ (List.mem_of_getElem? (i := 63) rfl))) Via.refl e101 pm2 (g := (mkF m 20 #[.val (.ref A0), .val (.ref A1), .val (.ref E0)] [(.ref A0), (.ref A0), (.ref E0)])) rfl rfl (hb hby d29_20)
  obtain ⟨cl103, Ar103, -, S103, -, -⟩ := id pm4
  obtain ⟨_, _, ⟨T104, L104, k104, n104⟩, -, X104, ⟨Lc104, hQ104, l104, y104, z104⟩, st104⟩ := Jvm.LawKit.callS X102 hx (y := (⟨"java/util/ArrayDeque", "dec", "(II)I"⟩ : MethodName)) hown (mvT hZ (hw _ (List.mem_of_getElem? (i := 205) rfl))) (mvT hZ (hw _ (List.mem_of_getElem? (i := 206) rfl))) (mvT hZ (hw _ (List.mem_of_getElem? (i := 11) rfl))) (mvT hZ (hw _ (List.mem_of_getElem? (i := 207) rfl))) (by decide) (backOf (W := 2) (rm30 l Z a0 hw [] HD h0 n0 Z0 (show HD < 17 from (by omega))) hZ (hw _ (List.mem_of_getElem? (i := 207) rfl)) (hw _ (List.mem_of_getElem? (i := 11) rfl)) (by decide) (by decide)) (g := (mkF m 25 #[.val (.ref A0), .val (.ref A1), .val (.ref E0)] [(.int (17 : Int32)), (.int (Int32.ofNat HD)), (.ref A0), (.ref E0)])) rfl (by rw [hml]; rfl) (argsL := [(.int (Int32.ofNat HD)), (.int (17 : Int32))]) (rest := [(.ref A0), (.ref E0)]) (lenOf pd_29_0 rfl) rfl (by show 2 * 0 + _ ≤ _; exact Nat.le_of_eq rfl) (hb hby d29_25) (fun _ _ => ⟨rfl, e102, (by decide : 0 + 0 ≤ _), (by decide : 0 + 0 ≤ _)⟩)
  dsimp only [Pt.U, Pt.locs, Pt.cells, Pt.slots] at X104 l104 y104 z104 st104 hQ104
  subst l104 y104 z104
  obtain ⟨rfl, N104q, K104⟩ := hQ104
  have N104 := Fr.app N0 N104q
  obtain ⟨T105, h105, X105, e105, W105, st105⟩ := putF X104 hx hZ hown (host := "") (Or.inl (hw _ (List.mem_of_getElem? (i := 63) rfl))) Via.refl K104 pm2 pm0 (Or.inl (hw _ (List.mem_of_getElem? (i := 64) rfl))) (hw _ (List.mem_of_getElem? (i := 10) rfl)) (ty := .int) (by decide) rfl rfl (g := (mkF m 29 #[.val (.ref A0), .val (.ref A1), .val (.ref E0)] [(.int (Int32.ofNat ((HD + 16) % 17))), (.ref A0), (.int (Int32.ofNat ((HD + 16) % 17))), (.ref E0)])) rfl rfl (hb hby d29_29)
  have Z106 : n0 ≤ h105.size := Nat.le_trans Z0 (Nat.le_of_eq W105.size.symm)
  have K_106 : Keep h0 h105 [A0, E0] := K_0.wr W105 (Or.inl (List.mem_of_getElem? (i := 0) rfl))
  have Fw105 : Fld Z h105 A0 "java/util/ArrayDeque" "head" "I" (.int (Int32.ofNat ((HD + 16) % 17))) := pm2.same W105
  have N105 := Fr.snoc X105 N104 g_A0
  have c107 : own_El Z h105 E0 FF := (pm4.other W105 (Ne.symm nDE))
  obtain ⟨cl108, Ar108, Ov108, S108, Hq108, Rq108⟩ := id c107
  have lt108 : ((HD + 16) % 17) < 17 := by omega
  have c109 : Exa Z h105 A1 "java/lang/Integer" := (pm5.wr W105)
  obtain ⟨T110, h110, X110, e110, W110, st110⟩ := stR X105 hx hZ e105 Ar108 (j := (Int32.ofNat ((HD + 16) % 17))) (own_in lt108 S108) rfl (own_sto Ar108 Ov108 (Ins.of_exa c109 (hw _ (List.mem_of_getElem? (i := 62) rfl)))) (g := (mkF m 33 #[.val (.ref A0), .val (.ref A1), .val (.ref E0)] [(.ref A1), (.int (Int32.ofNat ((HD + 16) % 17))), (.ref E0)])) rfl rfl (hb hby d29_33)
  rw [own_cl (show ((HD + 16) % 17) < 100 by omega)] at W110
  have Z111 : n0 ≤ h110.size := Nat.le_trans Z106 (Nat.le_of_eq W110.size.symm)
  have K_111 : Keep h0 h110 [A0, E0] := K_106.wr W110 (Or.inl (List.mem_of_getElem? (i := 1) rfl))
  have V110 : own_El Z h110 E0 (own_up FF ((HD + 16) % 17) (.ref A1)) := own_El.set c107 W110 (Or.inr ⟨_, rfl, c109⟩)
  have N110 := Fr.snoc X110 N105 g_E0
  have c112 : Fld Z h110 A0 "java/util/ArrayDeque" "head" "I" (.int (Int32.ofNat ((HD + 16) % 17))) := (Fw105.other W110 (Or.inl nDE))
  obtain ⟨T113, X113, e113, st113⟩ := getF X110 hx hZ hown (host := "") (Or.inl (hw _ (List.mem_of_getElem? (i := 63) rfl))) Via.refl e110 c112 (g := (mkF m 35 #[.val (.ref A0), .val (.ref A1), .val (.ref E0)] [(.ref A0)])) rfl rfl (hb hby d29_35)
  have c114 : Fld Z h110 A0 "java/util/ArrayDeque" "tail" "I" (.int (Int32.ofNat ((HD + CN) % 17))) := ((pm3.other W105 (Or.inr (slot_ne (Or.inl (hw _ (List.mem_of_getElem? (i := 61) rfl))) (Or.inl (hw _ (List.mem_of_getElem? (i := 64) rfl))) (by decide) (t := .int) (t' := .int) (by decide) (by decide)))).other W110 (Or.inl nDE))
  obtain ⟨T115, X115, e115, st115⟩ := getF X113 hx hZ hown (host := "") (Or.inl (hw _ (List.mem_of_getElem? (i := 60) rfl))) Via.refl e113 c114 (g := (mkF m 39 #[.val (.ref A0), .val (.ref A1), .val (.ref E0)] [(.ref A0), (.int (Int32.ofNat ((HD + 16) % 17)))])) rfl rfl (hb hby d29_39)
  have pre116 : ∀ t, Steps p.tables e below (T115.setTop (mkF m 50 #[.val (.ref A0), .val (.ref A1), .val (.ref E0)] [])) t → Steps p.tables e below (s₁.setTop (entryFrame m #[(.ref A0), (.ref A1)] 3)) t := fun t kt => pre0 t (by
      show Steps p.tables e below (s₁.setTop (mkF m 0 #[.val (.ref A0), .val (.ref A1), .unset] [])) _
      refine XS.aloadN X0.here hx rfl (hb hby d29_0) rfl rfl ?_
      show Steps p.tables e below (s₁.setTop (mkF m 1 #[.val (.ref A0), .val (.ref A1), .unset] [(.ref A1)])) _
      refine XS.ifnonnullYes X0.here hx rfl (pc0 := 1) (pc' := 12) rfl (hb hby d29_1) rfl (by decide) (by decide) ?_
      show Steps p.tables e below (s₁.setTop (mkF m 12 #[.val (.ref A0), .val (.ref A1), .unset] [])) _
      refine XS.aloadN X0.here hx rfl (hb hby d29_12) rfl rfl ?_
      show Steps p.tables e below (s₁.setTop (mkF m 13 #[.val (.ref A0), .val (.ref A1), .unset] [(.ref A0)])) _
      refine st101 _ ?_
      show Steps p.tables e below (T101.setTop (mkF m 16 #[.val (.ref A0), .val (.ref A1), .unset] [(.ref E0)])) _
      refine XS.astoreN X101.here hx rfl (hb hby d29_16) rfl rfl (l' := #[.val (.ref A0), .val (.ref A1), .val (.ref E0)]) rfl ?_
      show Steps p.tables e below (T101.setTop (mkF m 17 #[.val (.ref A0), .val (.ref A1), .val (.ref E0)] [])) _
      refine XS.aloadN X101.here hx rfl (hb hby d29_17) rfl rfl ?_
      show Steps p.tables e below (T101.setTop (mkF m 18 #[.val (.ref A0), .val (.ref A1), .val (.ref E0)] [(.ref E0)])) _
      refine XS.aloadN X101.here hx rfl (hb hby d29_18) rfl rfl ?_
      show Steps p.tables e below (T101.setTop (mkF m 19 #[.val (.ref A0), .val (.ref A1), .val (.ref E0)] [(.ref A0), (.ref E0)])) _
      refine XS.aloadN X101.here hx rfl (hb hby d29_19) rfl rfl ?_
      show Steps p.tables e below (T101.setTop (mkF m 20 #[.val (.ref A0), .val (.ref A1), .val (.ref E0)] [(.ref A0), (.ref A0), (.ref E0)])) _
      refine st102 _ ?_
      show Steps p.tables e below (T102.setTop (mkF m 23 #[.val (.ref A0), .val (.ref A1), .val (.ref E0)] [(.int (Int32.ofNat HD)), (.ref A0), (.ref E0)])) _
      refine XS.aloadN X102.here hx rfl (hb hby d29_23) rfl rfl ?_
      show Steps p.tables e below (T102.setTop (mkF m 24 #[.val (.ref A0), .val (.ref A1), .val (.ref E0)] [(.ref E0), (.int (Int32.ofNat HD)), (.ref A0), (.ref E0)])) _
      refine X102.arraylength hx (by rw [e102]; exact Ar103.1) (State.isArrayOf_alike hZ.alike Ar103.2.1) (g := (mkF m 24 #[.val (.ref A0), .val (.ref A1), .val (.ref E0)] [(.ref E0), (.int (Int32.ofNat HD)), (.ref A0), (.ref E0)])) rfl rfl (hb hby d29_24) _ ?_
      rw [show cl103.slots.size.toInt32 = (17 : Int32) from by rw [S103] <;> rfl]
      show Steps p.tables e below (T102.setTop (mkF m 25 #[.val (.ref A0), .val (.ref A1), .val (.ref E0)] [(.int (17 : Int32)), (.int (Int32.ofNat HD)), (.ref A0), (.ref E0)])) _
      refine st104 _ ?_
      show Steps p.tables e below (T104.setTop (mkF m 28 #[.val (.ref A0), .val (.ref A1), .val (.ref E0)] [(.int (Int32.ofNat ((HD + 16) % 17))), (.ref A0), (.ref E0)])) _
      refine XS.dupX1 X104.here hx rfl (hb hby d29_28) rfl rfl rfl ?_
      show Steps p.tables e below (T104.setTop (mkF m 29 #[.val (.ref A0), .val (.ref A1), .val (.ref E0)] [(.int (Int32.ofNat ((HD + 16) % 17))), (.ref A0), (.int (Int32.ofNat ((HD + 16) % 17))), (.ref E0)])) _
      refine st105 _ ?_
      show Steps p.tables e below (T105.setTop (mkF m 32 #[.val (.ref A0), .val (.ref A1), .val (.ref E0)] [(.int (Int32.ofNat ((HD + 16) % 17))), (.ref E0)])) _
      refine XS.aloadN X105.here hx rfl (hb hby d29_32) rfl rfl ?_
      show Steps p.tables e below (T105.setTop (mkF m 33 #[.val (.ref A0), .val (.ref A1), .val (.ref E0)] [(.ref A1), (.int (Int32.ofNat ((HD + 16) % 17))), (.ref E0)])) _
      refine st110 _ ?_
      show Steps p.tables e below (T110.setTop (mkF m 34 #[.val (.ref A0), .val (.ref A1), .val (.ref E0)] [])) _
      refine XS.aloadN X110.here hx rfl (hb hby d29_34) rfl rfl ?_
      show Steps p.tables e below (T110.setTop (mkF m 35 #[.val (.ref A0), .val (.ref A1), .val (.ref E0)] [(.ref A0)])) _
      refine st113 _ ?_
      show Steps p.tables e below (T113.setTop (mkF m 38 #[.val (.ref A0), .val (.ref A1), .val (.ref E0)] [(.int (Int32.ofNat ((HD + 16) % 17)))])) _
      refine XS.aloadN X113.here hx rfl (hb hby d29_38) rfl rfl ?_
      show Steps p.tables e below (T113.setTop (mkF m 39 #[.val (.ref A0), .val (.ref A1), .val (.ref E0)] [(.ref A0), (.int (Int32.ofNat ((HD + 16) % 17)))])) _
      refine st115 _ ?_
      show Steps p.tables e below (T115.setTop (mkF m 42 #[.val (.ref A0), .val (.ref A1), .val (.ref E0)] [(.int (Int32.ofNat ((HD + CN) % 17))), (.int (Int32.ofNat ((HD + 16) % 17)))])) _
      refine XS.icmpYes X115.here hx rfl (pc0 := 42) (pc' := 50) rfl (hb hby d29_42) rfl (feq (show ¬ ((Int32.ofNat ((HD + 16) % 17)) = (Int32.ofNat ((HD + CN) % 17))) from own_ne17 (by omega) (by omega) (by omega))).2 (by decide) (by decide) ?_
      exact kt)
  have c117 : Exa Z h110 A0 "java/util/ArrayDeque" := ((pm0.wr W105).wr W110)
  have c118 : Fld Z h110 A0 "java/util/ArrayDeque" "elements" "[Ljava/lang/Object;" (.ref E0) := ((pm1.other W105 (Or.inr (slot_ne (Or.inl (hw _ (List.mem_of_getElem? (i := 25) rfl))) (Or.inl (hw _ (List.mem_of_getElem? (i := 64) rfl))) (by decide) (t := (.array (.object "java/lang/Object"))) (t' := .int) (by decide) (by decide)))).other W110 (Or.inl nDE))
  obtain ⟨fs, hr, hrun, hended, hW, hsame⟩ := X115.leave (v := none) (fun _ => rfl)
  refine ⟨_, _, pre116 _ ?_, hrun, hended, _, _, rfl, ?_, ⟨_, rfl⟩, hW, hsame.mono (by decide) (by decide)⟩
  · show Steps p.tables e below (T115.setTop (mkF m 50 #[.val (.ref A0), .val (.ref A1), .val (.ref E0)] [])) _
    exact X115.returnOut hx Bd.returns (hb hby d29_50) hr
  · show Q29 Z A0 A1 E0 FF HD CN h0 n0 _ T115.heap _
    rw [e115]
    exact ⟨rfl, N110, K_111, c117, c118, c112, (by rw [show ((((HD + 16) % 17) + (CN + 1)) % 17) = ((HD + CN) % 17) from by omega]; exact c114), V110, (hq.first hc A1)⟩
theorem d14_0 : decode jdk_21_method_20_code 0 = .ok (.aload_n 0, 1) := by decide +kernel
theorem d14_1 : decode jdk_21_method_20_code 1 = .ok (.getfield 3, 3) := by decide +kernel
theorem d14_4 : decode jdk_21_method_20_code 4 = .ok (.dup, 1) := by decide +kernel
theorem d14_5 : decode jdk_21_method_20_code 5 = .ok (.astore_n 1, 1) := by decide +kernel
theorem d14_6 : decode jdk_21_method_20_code 6 = .ok (.aload_n 0, 1) := by decide +kernel
theorem d14_7 : decode jdk_21_method_20_code 7 = .ok (.getfield 24, 3) := by decide +kernel
theorem d14_10 : decode jdk_21_method_20_code 10 = .ok (.dup, 1) := by decide +kernel
theorem d14_11 : decode jdk_21_method_20_code 11 = .ok (.istore_n 2, 1) := by decide +kernel
theorem d14_12 : decode jdk_21_method_20_code 12 = .ok (.invokestatic 103, 3) := by decide +kernel
theorem d14_15 : decode jdk_21_method_20_code 15 = .ok (.astore_n 3, 1) := by decide +kernel
theorem d14_16 : decode jdk_21_method_20_code 16 = .ok (.aload_n 3, 1) := by decide +kernel
theorem d14_17 : decode jdk_21_method_20_code 17 = .ok (.ifnull 17, 3) := by decide +kernel
theorem d14_34 : decode jdk_21_method_20_code 34 = .ok (.aload_n 3, 1) := by decide +kernel
theorem d14_35 : decode jdk_21_method_20_code 35 = .ok (.areturn, 1) := by decide +kernel
theorem pn_14 : plainName "java/util/ArrayDeque" = true := by first | (simp [plainName, overriddenIn]; done) | decide +kernel
theorem pd_pN_0 : parseMethodDescriptor "([Ljava/lang/Object;I)Ljava/lang/Object;" = some ⟨[(.array (.object "java/lang/Object")), .int], some (.object "java/lang/Object")⟩ := by decide +kernel
theorem ef_pN (m : MethodId) (A0 : Addr) : entryFrame m #[(.ref A0)] 4 = mkF m 0 #[.val (.ref A0), .unset, .unset, .unset] [] := by first | (simp [entryFrame, mkF, argsToLocals, Value.category]; done) | rfl
def QpN (Z : State) (A0 : Addr) (E0 : Addr) (FF : Nat → Value) (HD : Nat) (CN : Nat) (h0 : Heap) (n0 : Nat) (v : Option Value) (h : Heap) (L : List Loc) : Prop := (v = some .null) ∧ (Fr n0 L) ∧ (h = h0)
set_option maxRecDepth 65536 in
set_option maxHeartbeats 40000000 in
theorem rmpN (l : Launch) (Z : State) (a0 : Array Value) (hw : ∀ d ∈ tables_1, d.before a0 Z = true) (ws : List Jvm.Cond) (A0 : Addr) (E0 : Addr) (FF : Nat → Value) (HD : Nat) (CN : Nat) (h0 : Heap) (n0 : Nat) (Z0 : n0 ≤ h0.size) (pm0 : Exa Z h0 A0 "java/util/ArrayDeque") (pm1 : Fld Z h0 A0 "java/util/ArrayDeque" "elements" "[Ljava/lang/Object;" (.ref E0)) (pm2 : Fld Z h0 A0 "java/util/ArrayDeque" "head" "I" (.int (Int32.ofNat HD))) (pm3 : Fld Z h0 A0 "java/util/ArrayDeque" "tail" "I" (.int (Int32.ofNat ((HD + CN) % 17)))) (pm4 : own_El Z h0 E0 FF) (hq : own_Dq FF HD CN) (hz : CN = 0) :
    MetFree l (⟨"java/util/ArrayDeque", "pollFirst", "()Ljava/lang/Object;"⟩ : MethodName) (head1 (Jvm.Cond.code (⟨"java/util/ArrayDeque", "pollFirst", "()Ljava/lang/Object;"⟩ : MethodName) jdk_21_method_20_code 4 (some (.object "java/lang/Object")) :: ws) ({ frames := 1, cells := 0, slots := 0, locals := 13 } : Room)) (fun a U => a = #[(.ref A0)] ∧ Z.Warmed39 U.vm ∧ U.heap = h0) (fun _ _ _ _ _ => True) (fun _ U o U' => ∃ v L, o = .returned v ∧ QpN Z A0 E0 FF HD CN h0 n0 v U'.heap L ∧ FrameEnd U o U' L ({ frames := 1, cells := 0, slots := 0, locals := 13 } : Room).cells ({ frames := 1, cells := 0, slots := 0, locals := 13 } : Room).slots) := by
  refine MetFree.of_bodySF (plainFor_of_name pn_14) hisR ?_
  intro p e s m args below meth c s₁ Bd hml0 hP hK
  obtain ⟨rfl, hZ, hh⟩ := hP
  have hx := Bd.exec
  have hby := Bd.bytes
  have hml : c.maxLocals = 4 := hml0
  have hown : s.vm.findClass "java/util/ArrayDeque" = some m.cls := findClass_of_methodNamed Bd.named
  have hnm := (name_of_methodNamed Bd.named Bd.method).1
  have X0 : Stand p l e ({ frames := 1, cells := 0, slots := 0, locals := 13 } : Room) s m #[(.ref A0)] below meth c s₁ [] 0 0 := Stand.of_body Bd
  have e0 : s₁.heap = h0 := by rw [← hh, Bd.state]; rfl
  have N0 := Fr.nil n0
  have pre0 : ∀ t, Steps p.tables e below (s₁.setTop (mkF m 0 #[.val (.ref A0), .unset, .unset, .unset] [])) t → Steps p.tables e below (s₁.setTop (entryFrame m #[(.ref A0)] 4)) t := fun t k => castTop (ef_pN m A0) k
  obtain ⟨T101, X101, e101, st101⟩ := getF X0 hx hZ hown (host := "") (Or.inl (hw _ (List.mem_of_getElem? (i := 24) rfl))) Via.refl e0 pm1 (g := (mkF m 1 #[.val (.ref A0), .unset, .unset, .unset] [(.ref A0)])) rfl rfl (hb hby d14_1)
  obtain ⟨T102, X102, e102, st102⟩ := getF X101 hx hZ hown (host := "") (Or.inl (hw _ (List.mem_of_getElem? (i := 63) rfl))) Via.refl e101 pm2 (g := (mkF m 7 #[.val (.ref A0), .val (.ref E0), .unset, .unset] [(.ref A0), (.ref E0)])) rfl rfl (hb hby d14_7)
  obtain ⟨_, _, ⟨T103, L103, k103, n103⟩, -, X103, ⟨Lc103, hQ103, l103, y103, z103⟩, st103⟩ := Jvm.LawKit.callS X102 hx (y := (⟨"java/util/ArrayDeque", "elementAt", "([Ljava/lang/Object;I)Ljava/lang/Object;"⟩ : MethodName)) hown (mvT hZ (hw _ (List.mem_of_getElem? (i := 92) rfl))) (mvT hZ (hw _ (List.mem_of_getElem? (i := 93) rfl))) (mvT hZ (hw _ (List.mem_of_getElem? (i := 11) rfl))) (mvT hZ (hw _ (List.mem_of_getElem? (i := 94) rfl))) (by decide) (backOf (W := 0) (rmeN l Z a0 hw [] E0 FF HD h0 n0 Z0 pm4 (show HD < 17 from hq.1) (show FF HD = Value.null from (hq.none hz))) hZ (hw _ (List.mem_of_getElem? (i := 94) rfl)) (hw _ (List.mem_of_getElem? (i := 11) rfl)) (by decide) (by decide)) (g := (mkF m 12 #[.val (.ref A0), .val (.ref E0), .val (.int (Int32.ofNat HD)), .unset] [(.int (Int32.ofNat HD)), (.ref E0)])) rfl (by rw [hml]; rfl) (argsL := [(.ref E0), (.int (Int32.ofNat HD))]) (rest := []) (lenOf pd_pN_0 rfl) rfl (by show 2 * 0 + _ ≤ _; exact Nat.le_of_eq rfl) (hb hby d14_12) (fun _ _ => ⟨rfl, e102, (by decide : 0 + 0 ≤ _), (by decide : 0 + 0 ≤ _)⟩)
  dsimp only [Pt.U, Pt.locs, Pt.cells, Pt.slots] at X103 l103 y103 z103 st103 hQ103
  subst l103 y103 z103
  obtain ⟨rfl, N103q, K103⟩ := hQ103
  have N103 := Fr.app N0 N103q
  have pre104 : ∀ t, Steps p.tables e below (T103.setTop (mkF m 35 #[.val (.ref A0), .val (.ref E0), .val (.int (Int32.ofNat HD)), .val .null] [.null])) t → Steps p.tables e below (s₁.setTop (entryFrame m #[(.ref A0)] 4)) t := fun t kt => pre0 t (by
      show Steps p.tables e below (s₁.setTop (mkF m 0 #[.val (.ref A0), .unset, .unset, .unset] [])) _
      refine XS.aloadN X0.here hx rfl (hb hby d14_0) rfl rfl ?_
      show Steps p.tables e below (s₁.setTop (mkF m 1 #[.val (.ref A0), .unset, .unset, .unset] [(.ref A0)])) _
      refine st101 _ ?_
      show Steps p.tables e below (T101.setTop (mkF m 4 #[.val (.ref A0), .unset, .unset, .unset] [(.ref E0)])) _
      refine XS.dup X101.here hx rfl (hb hby d14_4) rfl rfl ?_
      show Steps p.tables e below (T101.setTop (mkF m 5 #[.val (.ref A0), .unset, .unset, .unset] [(.ref E0), (.ref E0)])) _
      refine XS.astoreN X101.here hx rfl (hb hby d14_5) rfl rfl (l' := #[.val (.ref A0), .val (.ref E0), .unset, .unset]) rfl ?_
      show Steps p.tables e below (T101.setTop (mkF m 6 #[.val (.ref A0), .val (.ref E0), .unset, .unset] [(.ref E0)])) _
      refine XS.aloadN X101.here hx rfl (hb hby d14_6) rfl rfl ?_
      show Steps p.tables e below (T101.setTop (mkF m 7 #[.val (.ref A0), .val (.ref E0), .unset, .unset] [(.ref A0), (.ref E0)])) _
      refine st102 _ ?_
      show Steps p.tables e below (T102.setTop (mkF m 10 #[.val (.ref A0), .val (.ref E0), .unset, .unset] [(.int (Int32.ofNat HD)), (.ref E0)])) _
      refine XS.dup X102.here hx rfl (hb hby d14_10) rfl rfl ?_
      show Steps p.tables e below (T102.setTop (mkF m 11 #[.val (.ref A0), .val (.ref E0), .unset, .unset] [(.int (Int32.ofNat HD)), (.int (Int32.ofNat HD)), (.ref E0)])) _
      refine XS.istoreN X102.here hx rfl (hb hby d14_11) rfl (l' := #[.val (.ref A0), .val (.ref E0), .val (.int (Int32.ofNat HD)), .unset]) rfl ?_
      show Steps p.tables e below (T102.setTop (mkF m 12 #[.val (.ref A0), .val (.ref E0), .val (.int (Int32.ofNat HD)), .unset] [(.int (Int32.ofNat HD)), (.ref E0)])) _
      refine st103 _ ?_
      show Steps p.tables e below (T103.setTop (mkF m 15 #[.val (.ref A0), .val (.ref E0), .val (.int (Int32.ofNat HD)), .unset] [.null])) _
      refine XS.astoreN X103.here hx rfl (hb hby d14_15) rfl rfl (l' := #[.val (.ref A0), .val (.ref E0), .val (.int (Int32.ofNat HD)), .val .null]) rfl ?_
      show Steps p.tables e below (T103.setTop (mkF m 16 #[.val (.ref A0), .val (.ref E0), .val (.int (Int32.ofNat HD)), .val .null] [])) _
      refine XS.aloadN X103.here hx rfl (hb hby d14_16) rfl rfl ?_
      show Steps p.tables e below (T103.setTop (mkF m 17 #[.val (.ref A0), .val (.ref E0), .val (.int (Int32.ofNat HD)), .val .null] [.null])) _
      refine XS.ifnullYes X103.here hx rfl (pc0 := 17) (pc' := 34) rfl (hb hby d14_17) rfl (by decide) (by decide) ?_
      show Steps p.tables e below (T103.setTop (mkF m 34 #[.val (.ref A0), .val (.ref E0), .val (.int (Int32.ofNat HD)), .val .null] [])) _
      refine XS.aloadN X103.here hx rfl (hb hby d14_34) rfl rfl ?_
      exact kt)
  obtain ⟨fs, hr, hrun, hended, hW, hsame⟩ := X103.leave (v := some .null) (fun h => by rw [Bd.returns] at h; cases h)
  refine ⟨_, _, pre104 _ ?_, hrun, hended, _, _, rfl, ?_, ⟨_, rfl⟩, hW, hsame.mono (by decide) (by decide)⟩
  · show Steps p.tables e below (T103.setTop (mkF m 35 #[.val (.ref A0), .val (.ref E0), .val (.int (Int32.ofNat HD)), .val .null] [.null])) _
    exact retOut X103 hx Bd.returns rfl (Or.inr (Or.inr (Or.inr (Or.inr ⟨rfl, rfl, rfl⟩)))) (hb hby d14_35) hr
  · show QpN Z A0 E0 FF HD CN h0 n0 _ T103.heap _
    rw [K103]
    exact ⟨rfl, N103, rfl⟩
theorem d14_20 : decode jdk_21_method_20_code 20 = .ok (.aload_n 1, 1) := by decide +kernel
theorem d14_21 : decode jdk_21_method_20_code 21 = .ok (.iload_n 2, 1) := by decide +kernel
theorem d14_22 : decode jdk_21_method_20_code 22 = .ok (.aconst_null, 1) := by decide +kernel
theorem d14_23 : decode jdk_21_method_20_code 23 = .ok (.aastore, 1) := by decide +kernel
theorem d14_24 : decode jdk_21_method_20_code 24 = .ok (.aload_n 0, 1) := by decide +kernel
theorem d14_25 : decode jdk_21_method_20_code 25 = .ok (.iload_n 2, 1) := by decide +kernel
theorem d14_26 : decode jdk_21_method_20_code 26 = .ok (.aload_n 1, 1) := by decide +kernel
theorem d14_27 : decode jdk_21_method_20_code 27 = .ok (.arraylength, 1) := by decide +kernel
theorem d14_28 : decode jdk_21_method_20_code 28 = .ok (.invokestatic 74, 3) := by decide +kernel
theorem d14_31 : decode jdk_21_method_20_code 31 = .ok (.putfield 24, 3) := by decide +kernel
theorem pd_pR_0 : parseMethodDescriptor "([Ljava/lang/Object;I)Ljava/lang/Object;" = some ⟨[(.array (.object "java/lang/Object")), .int], some (.object "java/lang/Object")⟩ := by decide +kernel
theorem pd_pR_1 : parseMethodDescriptor "(II)I" = some ⟨[.int, .int], some .int⟩ := by decide +kernel
theorem ef_pR (m : MethodId) (A0 : Addr) : entryFrame m #[(.ref A0)] 4 = mkF m 0 #[.val (.ref A0), .unset, .unset, .unset] [] := by first | (simp [entryFrame, mkF, argsToLocals, Value.category]; done) | rfl
def QpR (Z : State) (A0 : Addr) (E0 : Addr) (FF : Nat → Value) (HD : Nat) (CN : Nat) (h0 : Heap) (n0 : Nat) (v : Option Value) (h : Heap) (L : List Loc) : Prop := ∃ R0 : Addr, (v = some (.ref R0)) ∧ (Fr n0 L) ∧ (Keep h0 h [A0, E0]) ∧ (Exa Z h A0 "java/util/ArrayDeque") ∧ (Fld Z h A0 "java/util/ArrayDeque" "elements" "[Ljava/lang/Object;" (.ref E0)) ∧ (Fld Z h A0 "java/util/ArrayDeque" "head" "I" (.int (Int32.ofNat ((HD + 1) % 17)))) ∧ (Fld Z h A0 "java/util/ArrayDeque" "tail" "I" (.int (Int32.ofNat ((((HD + 1) % 17) + (CN - 1)) % 17)))) ∧ (own_El Z h E0 (own_up FF HD .null)) ∧ (own_Dq (own_up FF HD .null) ((HD + 1) % 17) (CN - 1))
set_option maxRecDepth 65536 in
set_option maxHeartbeats 40000000 in
theorem rmpR (l : Launch) (Z : State) (a0 : Array Value) (hw : ∀ d ∈ tables_1, d.before a0 Z = true) (ws : List Jvm.Cond) (A0 : Addr) (E0 : Addr) (FF : Nat → Value) (HD : Nat) (CN : Nat) (h0 : Heap) (n0 : Nat) (Z0 : n0 ≤ h0.size) (pm0 : Exa Z h0 A0 "java/util/ArrayDeque") (pm1 : Fld Z h0 A0 "java/util/ArrayDeque" "elements" "[Ljava/lang/Object;" (.ref E0)) (pm2 : Fld Z h0 A0 "java/util/ArrayDeque" "head" "I" (.int (Int32.ofNat HD))) (pm3 : Fld Z h0 A0 "java/util/ArrayDeque" "tail" "I" (.int (Int32.ofNat ((HD + CN) % 17)))) (pm4 : own_El Z h0 E0 FF) (hq : own_Dq FF HD CN) (hz : 0 < CN) (nDE : A0 ≠ E0) (g_A0 : n0 ≤ A0) (g_E0 : n0 ≤ E0) :
    MetFree l (⟨"java/util/ArrayDeque", "pollFirst", "()Ljava/lang/Object;"⟩ : MethodName) (head1 (Jvm.Cond.code (⟨"java/util/ArrayDeque", "pollFirst", "()Ljava/lang/Object;"⟩ : MethodName) jdk_21_method_20_code 4 (some (.object "java/lang/Object")) :: ws) ({ frames := 1, cells := 0, slots := 0, locals := 14 } : Room)) (fun a U => a = #[(.ref A0)] ∧ Z.Warmed39 U.vm ∧ U.heap = h0) (fun _ _ _ _ _ => True) (fun _ U o U' => ∃ v L, o = .returned v ∧ QpR Z A0 E0 FF HD CN h0 n0 v U'.heap L ∧ FrameEnd U o U' L ({ frames := 1, cells := 0, slots := 0, locals := 14 } : Room).cells ({ frames := 1, cells := 0, slots := 0, locals := 14 } : Room).slots) := by
  refine MetFree.of_bodySF (plainFor_of_name pn_14) hisR ?_
  intro p e s m args below meth c s₁ Bd hml0 hP hK
  obtain ⟨rfl, hZ, hh⟩ := hP
  have hx := Bd.exec
  have hby := Bd.bytes
  have hml : c.maxLocals = 4 := hml0
  have hown : s.vm.findClass "java/util/ArrayDeque" = some m.cls := findClass_of_methodNamed Bd.named
  have hnm := (name_of_methodNamed Bd.named Bd.method).1
  have X0 : Stand p l e ({ frames := 1, cells := 0, slots := 0, locals := 14 } : Room) s m #[(.ref A0)] below meth c s₁ [] 0 0 := Stand.of_body Bd
  have e0 : s₁.heap = h0 := by rw [← hh, Bd.state]; rfl
  have N0 := Fr.nil n0
  have pre0 : ∀ t, Steps p.tables e below (s₁.setTop (mkF m 0 #[.val (.ref A0), .unset, .unset, .unset] [])) t → Steps p.tables e below (s₁.setTop (entryFrame m #[(.ref A0)] 4)) t := fun t k => castTop (ef_pR m A0) k
  have K_0 : Keep h0 h0 [A0, E0] := Keep.refl h0 _
  have hq1 := hq.1
  have hq2 := hq.2.1
  obtain ⟨T101, X101, e101, st101⟩ := getF X0 hx hZ hown (host := "") (Or.inl (hw _ (List.mem_of_getElem? (i := 24) rfl))) Via.refl e0 pm1 (g := (mkF m 1 #[.val (.ref A0), .unset, .unset, .unset] [(.ref A0)])) rfl rfl (hb hby d14_1)
  obtain ⟨T102, X102, e102, st102⟩ := getF X101 hx hZ hown (host := "") (Or.inl (hw _ (List.mem_of_getElem? (i := 63) rfl))) Via.refl e101 pm2 (g := (mkF m 7 #[.val (.ref A0), .val (.ref E0), .unset, .unset] [(.ref A0), (.ref E0)])) rfl rfl (hb hby d14_7)
  obtain ⟨y0, hy0⟩ := hq.some pm4 hz
  obtain ⟨_, _, ⟨T103, L103, k103, n103⟩, -, X103, ⟨Lc103, hQ103, l103, y103, z103⟩, st103⟩ := Jvm.LawKit.callS X102 hx (y := (⟨"java/util/ArrayDeque", "elementAt", "([Ljava/lang/Object;I)Ljava/lang/Object;"⟩ : MethodName)) hown (mvT hZ (hw _ (List.mem_of_getElem? (i := 92) rfl))) (mvT hZ (hw _ (List.mem_of_getElem? (i := 93) rfl))) (mvT hZ (hw _ (List.mem_of_getElem? (i := 11) rfl))) (mvT hZ (hw _ (List.mem_of_getElem? (i := 94) rfl))) (by decide) (backOf (W := 0) (rmeR l Z a0 hw [] E0 FF HD y0 h0 n0 Z0 pm4 (show HD < 17 from (by omega)) (show FF HD = Value.ref y0 from hy0)) hZ (hw _ (List.mem_of_getElem? (i := 94) rfl)) (hw _ (List.mem_of_getElem? (i := 11) rfl)) (by decide) (by decide)) (g := (mkF m 12 #[.val (.ref A0), .val (.ref E0), .val (.int (Int32.ofNat HD)), .unset] [(.int (Int32.ofNat HD)), (.ref E0)])) rfl (by rw [hml]; rfl) (argsL := [(.ref E0), (.int (Int32.ofNat HD))]) (rest := []) (lenOf pd_pR_0 rfl) rfl (by show 2 * 0 + _ ≤ _; exact Nat.le_of_eq rfl) (hb hby d14_12) (fun _ _ => ⟨rfl, e102, (by decide : 0 + 0 ≤ _), (by decide : 0 + 0 ≤ _)⟩)
  dsimp only [Pt.U, Pt.locs, Pt.cells, Pt.slots] at X103 l103 y103 z103 st103 hQ103
  subst l103 y103 z103
  obtain ⟨rfl, N103q, K103⟩ := hQ103
  have N103 := Fr.app N0 N103q
  obtain ⟨cl104, Ar104, Ov104, S104, Hq104, Rq104⟩ := id pm4
  have lt104 : HD < 17 := by omega
  obtain ⟨T105, h105, X105, e105, W105, st105⟩ := stR X103 hx hZ K103 Ar104 (j := (Int32.ofNat HD)) (own_in lt104 S104) rfl (Or.inl rfl) (g := (mkF m 23 #[.val (.ref A0), .val (.ref E0), .val (.int (Int32.ofNat HD)), .val (.ref y0)] [.null, (.int (Int32.ofNat HD)), (.ref E0)])) rfl rfl (hb hby d14_23)
  rw [own_cl (show HD < 100 by omega)] at W105
  have Z106 : n0 ≤ h105.size := Nat.le_trans Z0 (Nat.le_of_eq W105.size.symm)
  have K_106 : Keep h0 h105 [A0, E0] := K_0.wr W105 (Or.inl (List.mem_of_getElem? (i := 1) rfl))
  have V105 : own_El Z h105 E0 (own_up FF HD .null) := own_El.set pm4 W105 (Or.inl rfl)
  have N105 := Fr.snoc X105 N103 g_E0
  obtain ⟨cl107, Ar107, -, S107, -, -⟩ := id V105
  obtain ⟨_, _, ⟨T108, L108, k108, n108⟩, -, X108, ⟨Lc108, hQ108, l108, y108, z108⟩, st108⟩ := Jvm.LawKit.callS X105 hx (y := (⟨"java/util/ArrayDeque", "inc", "(II)I"⟩ : MethodName)) hown (mvT hZ (hw _ (List.mem_of_getElem? (i := 65) rfl))) (mvT hZ (hw _ (List.mem_of_getElem? (i := 66) rfl))) (mvT hZ (hw _ (List.mem_of_getElem? (i := 11) rfl))) (mvT hZ (hw _ (List.mem_of_getElem? (i := 67) rfl))) (by decide) (backOf (W := 1) (rm10 l Z a0 hw [] HD h105 n0 Z106 (show HD < 17 from (by omega))) hZ (hw _ (List.mem_of_getElem? (i := 67) rfl)) (hw _ (List.mem_of_getElem? (i := 11) rfl)) (by decide) (by decide)) (g := (mkF m 28 #[.val (.ref A0), .val (.ref E0), .val (.int (Int32.ofNat HD)), .val (.ref y0)] [(.int (17 : Int32)), (.int (Int32.ofNat HD)), (.ref A0)])) rfl (by rw [hml]; rfl) (argsL := [(.int (Int32.ofNat HD)), (.int (17 : Int32))]) (rest := [(.ref A0)]) (lenOf pd_pR_1 rfl) rfl (by show 2 * 0 + _ ≤ _; exact Nat.le_of_eq rfl) (hb hby d14_28) (fun _ _ => ⟨rfl, e105, (by decide : 0 + 0 ≤ _), (by decide : 0 + 0 ≤ _)⟩)
  dsimp only [Pt.U, Pt.locs, Pt.cells, Pt.slots] at X108 l108 y108 z108 st108 hQ108
  subst l108 y108 z108
  obtain ⟨rfl, N108q, K108⟩ := hQ108
  have N108 := Fr.app N105 N108q
  have c109 : Exa Z h105 A0 "java/util/ArrayDeque" := (pm0.wr W105)
  have c110 : Fld Z h105 A0 "java/util/ArrayDeque" "head" "I" (.int (Int32.ofNat HD)) := (pm2.other W105 (Or.inl nDE))
  obtain ⟨T111, h111, X111, e111, W111, st111⟩ := putF X108 hx hZ hown (host := "") (Or.inl (hw _ (List.mem_of_getElem? (i := 63) rfl))) Via.refl K108 c110 c109 (Or.inl (hw _ (List.mem_of_getElem? (i := 64) rfl))) (hw _ (List.mem_of_getElem? (i := 10) rfl)) (ty := .int) (by decide) rfl rfl (g := (mkF m 31 #[.val (.ref A0), .val (.ref E0), .val (.int (Int32.ofNat HD)), .val (.ref y0)] [(.int (Int32.ofNat ((HD + 1) % 17))), (.ref A0)])) rfl rfl (hb hby d14_31)
  have Z112 : n0 ≤ h111.size := Nat.le_trans Z106 (Nat.le_of_eq W111.size.symm)
  have K_112 : Keep h0 h111 [A0, E0] := K_106.wr W111 (Or.inl (List.mem_of_getElem? (i := 0) rfl))
  have Fw111 : Fld Z h111 A0 "java/util/ArrayDeque" "head" "I" (.int (Int32.ofNat ((HD + 1) % 17))) := c110.same W111
  have N111 := Fr.snoc X111 N108 g_A0
  have pre113 : ∀ t, Steps p.tables e below (T111.setTop (mkF m 35 #[.val (.ref A0), .val (.ref E0), .val (.int (Int32.ofNat HD)), .val (.ref y0)] [(.ref y0)])) t → Steps p.tables e below (s₁.setTop (entryFrame m #[(.ref A0)] 4)) t := fun t kt => pre0 t (by
      show Steps p.tables e below (s₁.setTop (mkF m 0 #[.val (.ref A0), .unset, .unset, .unset] [])) _
      refine XS.aloadN X0.here hx rfl (hb hby d14_0) rfl rfl ?_
      show Steps p.tables e below (s₁.setTop (mkF m 1 #[.val (.ref A0), .unset, .unset, .unset] [(.ref A0)])) _
      refine st101 _ ?_
      show Steps p.tables e below (T101.setTop (mkF m 4 #[.val (.ref A0), .unset, .unset, .unset] [(.ref E0)])) _
      refine XS.dup X101.here hx rfl (hb hby d14_4) rfl rfl ?_
      show Steps p.tables e below (T101.setTop (mkF m 5 #[.val (.ref A0), .unset, .unset, .unset] [(.ref E0), (.ref E0)])) _
      refine XS.astoreN X101.here hx rfl (hb hby d14_5) rfl rfl (l' := #[.val (.ref A0), .val (.ref E0), .unset, .unset]) rfl ?_
      show Steps p.tables e below (T101.setTop (mkF m 6 #[.val (.ref A0), .val (.ref E0), .unset, .unset] [(.ref E0)])) _
      refine XS.aloadN X101.here hx rfl (hb hby d14_6) rfl rfl ?_
      show Steps p.tables e below (T101.setTop (mkF m 7 #[.val (.ref A0), .val (.ref E0), .unset, .unset] [(.ref A0), (.ref E0)])) _
      refine st102 _ ?_
      show Steps p.tables e below (T102.setTop (mkF m 10 #[.val (.ref A0), .val (.ref E0), .unset, .unset] [(.int (Int32.ofNat HD)), (.ref E0)])) _
      refine XS.dup X102.here hx rfl (hb hby d14_10) rfl rfl ?_
      show Steps p.tables e below (T102.setTop (mkF m 11 #[.val (.ref A0), .val (.ref E0), .unset, .unset] [(.int (Int32.ofNat HD)), (.int (Int32.ofNat HD)), (.ref E0)])) _
      refine XS.istoreN X102.here hx rfl (hb hby d14_11) rfl (l' := #[.val (.ref A0), .val (.ref E0), .val (.int (Int32.ofNat HD)), .unset]) rfl ?_
      show Steps p.tables e below (T102.setTop (mkF m 12 #[.val (.ref A0), .val (.ref E0), .val (.int (Int32.ofNat HD)), .unset] [(.int (Int32.ofNat HD)), (.ref E0)])) _
      refine st103 _ ?_
      show Steps p.tables e below (T103.setTop (mkF m 15 #[.val (.ref A0), .val (.ref E0), .val (.int (Int32.ofNat HD)), .unset] [(.ref y0)])) _
      refine XS.astoreN X103.here hx rfl (hb hby d14_15) rfl rfl (l' := #[.val (.ref A0), .val (.ref E0), .val (.int (Int32.ofNat HD)), .val (.ref y0)]) rfl ?_
      show Steps p.tables e below (T103.setTop (mkF m 16 #[.val (.ref A0), .val (.ref E0), .val (.int (Int32.ofNat HD)), .val (.ref y0)] [])) _
      refine XS.aloadN X103.here hx rfl (hb hby d14_16) rfl rfl ?_
      show Steps p.tables e below (T103.setTop (mkF m 17 #[.val (.ref A0), .val (.ref E0), .val (.int (Int32.ofNat HD)), .val (.ref y0)] [(.ref y0)])) _
      refine XS.ifnullNo X103.here hx rfl (hb hby d14_17) rfl ?_
      show Steps p.tables e below (T103.setTop (mkF m 20 #[.val (.ref A0), .val (.ref E0), .val (.int (Int32.ofNat HD)), .val (.ref y0)] [])) _
      refine XS.aloadN X103.here hx rfl (hb hby d14_20) rfl rfl ?_
      show Steps p.tables e below (T103.setTop (mkF m 21 #[.val (.ref A0), .val (.ref E0), .val (.int (Int32.ofNat HD)), .val (.ref y0)] [(.ref E0)])) _
      refine XS.iloadN X103.here hx rfl (hb hby d14_21) rfl ?_
      show Steps p.tables e below (T103.setTop (mkF m 22 #[.val (.ref A0), .val (.ref E0), .val (.int (Int32.ofNat HD)), .val (.ref y0)] [(.int (Int32.ofNat HD)), (.ref E0)])) _
      refine XS.aconstNull X103.here hx rfl (hb hby d14_22) ?_
      show Steps p.tables e below (T103.setTop (mkF m 23 #[.val (.ref A0), .val (.ref E0), .val (.int (Int32.ofNat HD)), .val (.ref y0)] [.null, (.int (Int32.ofNat HD)), (.ref E0)])) _
      refine st105 _ ?_
      show Steps p.tables e below (T105.setTop (mkF m 24 #[.val (.ref A0), .val (.ref E0), .val (.int (Int32.ofNat HD)), .val (.ref y0)] [])) _
      refine XS.aloadN X105.here hx rfl (hb hby d14_24) rfl rfl ?_
      show Steps p.tables e below (T105.setTop (mkF m 25 #[.val (.ref A0), .val (.ref E0), .val (.int (Int32.ofNat HD)), .val (.ref y0)] [(.ref A0)])) _
      refine XS.iloadN X105.here hx rfl (hb hby d14_25) rfl ?_
      show Steps p.tables e below (T105.setTop (mkF m 26 #[.val (.ref A0), .val (.ref E0), .val (.int (Int32.ofNat HD)), .val (.ref y0)] [(.int (Int32.ofNat HD)), (.ref A0)])) _
      refine XS.aloadN X105.here hx rfl (hb hby d14_26) rfl rfl ?_
      show Steps p.tables e below (T105.setTop (mkF m 27 #[.val (.ref A0), .val (.ref E0), .val (.int (Int32.ofNat HD)), .val (.ref y0)] [(.ref E0), (.int (Int32.ofNat HD)), (.ref A0)])) _
      refine X105.arraylength hx (by rw [e105]; exact Ar107.1) (State.isArrayOf_alike hZ.alike Ar107.2.1) (g := (mkF m 27 #[.val (.ref A0), .val (.ref E0), .val (.int (Int32.ofNat HD)), .val (.ref y0)] [(.ref E0), (.int (Int32.ofNat HD)), (.ref A0)])) rfl rfl (hb hby d14_27) _ ?_
      rw [show cl107.slots.size.toInt32 = (17 : Int32) from by rw [S107] <;> rfl]
      show Steps p.tables e below (T105.setTop (mkF m 28 #[.val (.ref A0), .val (.ref E0), .val (.int (Int32.ofNat HD)), .val (.ref y0)] [(.int (17 : Int32)), (.int (Int32.ofNat HD)), (.ref A0)])) _
      refine st108 _ ?_
      show Steps p.tables e below (T108.setTop (mkF m 31 #[.val (.ref A0), .val (.ref E0), .val (.int (Int32.ofNat HD)), .val (.ref y0)] [(.int (Int32.ofNat ((HD + 1) % 17))), (.ref A0)])) _
      refine st111 _ ?_
      show Steps p.tables e below (T111.setTop (mkF m 34 #[.val (.ref A0), .val (.ref E0), .val (.int (Int32.ofNat HD)), .val (.ref y0)] [])) _
      refine XS.aloadN X111.here hx rfl (hb hby d14_34) rfl rfl ?_
      exact kt)
  have c114 : Fld Z h111 A0 "java/util/ArrayDeque" "tail" "I" (.int (Int32.ofNat ((HD + CN) % 17))) := ((pm3.other W105 (Or.inl nDE)).other W111 (Or.inr (slot_ne (Or.inl (hw _ (List.mem_of_getElem? (i := 61) rfl))) (Or.inl (hw _ (List.mem_of_getElem? (i := 64) rfl))) (by decide) (t := .int) (t' := .int) (by decide) (by decide))))
  have c115 : Exa Z h111 A0 "java/util/ArrayDeque" := (c109.wr W111)
  have c116 : Fld Z h111 A0 "java/util/ArrayDeque" "elements" "[Ljava/lang/Object;" (.ref E0) := ((pm1.other W105 (Or.inl nDE)).other W111 (Or.inr (slot_ne (Or.inl (hw _ (List.mem_of_getElem? (i := 25) rfl))) (Or.inl (hw _ (List.mem_of_getElem? (i := 64) rfl))) (by decide) (t := (.array (.object "java/lang/Object"))) (t' := .int) (by decide) (by decide))))
  have c117 : own_El Z h111 E0 (own_up FF HD .null) := (V105.other W111 (Ne.symm nDE))
  obtain ⟨fs, hr, hrun, hended, hW, hsame⟩ := X111.leave (v := some (.ref y0)) (fun h => by rw [Bd.returns] at h; cases h)
  refine ⟨_, _, pre113 _ ?_, hrun, hended, _, _, rfl, ?_, ⟨_, rfl⟩, hW, hsame.mono (by decide) (by decide)⟩
  · show Steps p.tables e below (T111.setTop (mkF m 35 #[.val (.ref A0), .val (.ref E0), .val (.int (Int32.ofNat HD)), .val (.ref y0)] [(.ref y0)])) _
    exact retOut X111 hx Bd.returns rfl (Or.inr (Or.inr (Or.inr (Or.inr ⟨rfl, rfl, rfl⟩)))) (hb hby d14_35) hr
  · show QpR Z A0 E0 FF HD CN h0 n0 _ T111.heap _
    rw [e111]
    exact ⟨y0, rfl, N111, K_112, c115, c116, Fw111, (by rw [show ((((HD + 1) % 17) + (CN - 1)) % 17) = ((HD + CN) % 17) from by omega]; exact c114), c117, (hq.pop hz)⟩
theorem d24_12 : decode jdk_21_method_54_code 12 = .ok (.iload_n 1, 1) := by decide +kernel
theorem d24_13 : decode jdk_21_method_54_code 13 = .ok (.iload_n 3, 1) := by decide +kernel
theorem d24_14 : decode jdk_21_method_54_code 14 = .ok (.if_icmp .ge 13, 3) := by decide +kernel
theorem d24_17 : decode jdk_21_method_54_code 17 = .ok (.aload_n 0, 1) := by decide +kernel
theorem d24_18 : decode jdk_21_method_54_code 18 = .ok (.iload_n 1, 1) := by decide +kernel
theorem d24_19 : decode jdk_21_method_54_code 19 = .ok (.aconst_null, 1) := by decide +kernel
theorem d24_20 : decode jdk_21_method_54_code 20 = .ok (.aastore, 1) := by decide +kernel
theorem d24_21 : decode jdk_21_method_54_code 21 = .ok (.iinc 1 1, 3) := by decide +kernel
theorem d24_24 : decode jdk_21_method_54_code 24 = .ok (.goto (-12), 3) := by decide +kernel
set_option maxRecDepth 65536 in
set_option maxHeartbeats 40000000 in
theorem own_lpc {p : Program} {l : Launch} {e : Env} {s : State} {m : MethodId} {args : Array Value} {below : List Frame} {meth : Method} {c : Code} {Z : State} {a0 : Array Value} {n0 : Nat} {A0 : Addr} {P2 : Int32}
    (hx : p.tables.exec = Jvm.exec) (hZ : Z.Warmed39 s.vm) (hw : ∀ d ∈ tables_1, d.before a0 Z = true) (hby : c.code = jdk_21_method_54_code) (hml : c.maxLocals = 4) (hown : s.vm.findClass "java/util/ArrayDeque" = some m.cls) (g_A0 : n0 ≤ A0) :
    ∀ (n i : Nat) (f : Nat → Value) (T0 : State) (h0 : Heap) (locs : List Loc) (X0 : Stand p l e ({ frames := 0, cells := 0, slots := 0, locals := 0 } : Room) s m args below meth c T0 locs 0 0) (e0 : T0.heap = h0) (N0 : Fr n0 locs) (F0 : own_El Z h0 A0 f) (Z0 : n0 ≤ h0.size) (hin : i + n ≤ 17),
    ∃ (T' : State) (h' : Heap) (locs' : List Loc), Stand p l e ({ frames := 0, cells := 0, slots := 0, locals := 0 } : Room) s m args below meth c T' locs' 0 0 ∧ Fr n0 locs' ∧ T'.heap = h' ∧ Keep h0 h' [A0] ∧ own_El Z h' A0 (fun j => if i ≤ j ∧ j < i + n then Value.null else f j) ∧ n0 ≤ h'.size ∧ ∀ t, Steps p.tables e below (T'.setTop (mkF m 27 #[.val (.ref A0), .val (.int (Int32.ofNat (i + n))), .val (.int P2), .val (.int (Int32.ofNat (i + n)))] [])) t → Steps p.tables e below (T0.setTop (mkF m 12 #[.val (.ref A0), .val (.int (Int32.ofNat i)), .val (.int P2), .val (.int (Int32.ofNat (i + n)))] [])) t := by
  intro n
  induction n with
  | zero =>
    intro i f T0 h0 locs X0 e0 N0 F0 Z0 hin
    have pre0 : ∀ t, Steps p.tables e below (T0.setTop (mkF m 12 #[.val (.ref A0), .val (.int (Int32.ofNat i)), .val (.int P2), .val (.int (Int32.ofNat (i + 0)))] [])) t → Steps p.tables e below (T0.setTop (mkF m 12 #[.val (.ref A0), .val (.int (Int32.ofNat i)), .val (.int P2), .val (.int (Int32.ofNat (i + 0)))] [])) t := fun t k => k
    have K_0 : Keep h0 h0 [A0] := Keep.refl h0 _
    have pre4001 : ∀ t, Steps p.tables e below (T0.setTop (mkF m 27 #[.val (.ref A0), .val (.int (Int32.ofNat i)), .val (.int P2), .val (.int (Int32.ofNat (i + 0)))] [])) t → Steps p.tables e below (T0.setTop (mkF m 12 #[.val (.ref A0), .val (.int (Int32.ofNat i)), .val (.int P2), .val (.int (Int32.ofNat (i + 0)))] [])) t := fun t kt => pre0 t (by
        show Steps p.tables e below (T0.setTop (mkF m 12 #[.val (.ref A0), .val (.int (Int32.ofNat i)), .val (.int P2), .val (.int (Int32.ofNat (i + 0)))] [])) _
        refine XS.iloadN X0.here hx rfl (hb hby d24_12) rfl ?_
        show Steps p.tables e below (T0.setTop (mkF m 13 #[.val (.ref A0), .val (.int (Int32.ofNat i)), .val (.int P2), .val (.int (Int32.ofNat (i + 0)))] [(.int (Int32.ofNat i))])) _
        refine XS.iloadN X0.here hx rfl (hb hby d24_13) rfl ?_
        show Steps p.tables e below (T0.setTop (mkF m 14 #[.val (.ref A0), .val (.int (Int32.ofNat i)), .val (.int P2), .val (.int (Int32.ofNat (i + 0)))] [(.int (Int32.ofNat (i + 0))), (.int (Int32.ofNat i))])) _
        refine XS.icmpYes X0.here hx rfl (pc0 := 14) (pc' := 27) rfl (hb hby d24_14) rfl (flt (show ¬ ((Int32.ofNat i) < (Int32.ofNat (i + 0))) from (fun q => absurd ((own_lt (by omega) (by omega)).mp q) (by omega)))).2.1 (by decide) (by decide) ?_
        exact kt)
    exact ⟨T0, h0, _, X0, N0, e0, K_0, F0.cong (fun j => by simp; omega), Z0, fun t kt => pre4001 t (by simpa using kt)⟩
  | succ n ih =>
    intro i f T0 h0 locs X0 e0 N0 F0 Z0 hin
    have pre0 : ∀ t, Steps p.tables e below (T0.setTop (mkF m 12 #[.val (.ref A0), .val (.int (Int32.ofNat i)), .val (.int P2), .val (.int (Int32.ofNat (i + (n + 1))))] [])) t → Steps p.tables e below (T0.setTop (mkF m 12 #[.val (.ref A0), .val (.int (Int32.ofNat i)), .val (.int P2), .val (.int (Int32.ofNat (i + (n + 1))))] [])) t := fun t k => k
    have K_0 : Keep h0 h0 [A0] := Keep.refl h0 _
    obtain ⟨cl5001, Ar5001, Ov5001, S5001, Hq5001, Rq5001⟩ := id F0
    have lt5001 : i < 17 := by omega
    obtain ⟨T5002, h5002, X5002, e5002, W5002, st5002⟩ := stR X0 hx hZ e0 Ar5001 (j := (Int32.ofNat i)) (own_in lt5001 S5001) rfl (Or.inl rfl) (g := (mkF m 20 #[.val (.ref A0), .val (.int (Int32.ofNat i)), .val (.int P2), .val (.int (Int32.ofNat (i + (n + 1))))] [.null, (.int (Int32.ofNat i)), (.ref A0)])) rfl rfl (hb hby d24_20)
    rw [own_cl (show i < 100 by omega)] at W5002
    have Z5003 : n0 ≤ h5002.size := Nat.le_trans Z0 (Nat.le_of_eq W5002.size.symm)
    have K_5003 : Keep h0 h5002 [A0] := K_0.wr W5002 (Or.inl (List.mem_of_getElem? (i := 0) rfl))
    have V5002 : own_El Z h5002 A0 (own_up f i .null) := own_El.set F0 W5002 (Or.inl rfl)
    have N5002 := Fr.snoc X5002 N0 g_A0
    have pre5004 : ∀ t, Steps p.tables e below (T5002.setTop (mkF m 12 #[.val (.ref A0), .val (.int ((Int32.ofNat i) + (1 : Int32))), .val (.int P2), .val (.int (Int32.ofNat (i + (n + 1))))] [])) t → Steps p.tables e below (T0.setTop (mkF m 12 #[.val (.ref A0), .val (.int (Int32.ofNat i)), .val (.int P2), .val (.int (Int32.ofNat (i + (n + 1))))] [])) t := fun t kt => pre0 t (by
        show Steps p.tables e below (T0.setTop (mkF m 12 #[.val (.ref A0), .val (.int (Int32.ofNat i)), .val (.int P2), .val (.int (Int32.ofNat (i + (n + 1))))] [])) _
        refine XS.iloadN X0.here hx rfl (hb hby d24_12) rfl ?_
        show Steps p.tables e below (T0.setTop (mkF m 13 #[.val (.ref A0), .val (.int (Int32.ofNat i)), .val (.int P2), .val (.int (Int32.ofNat (i + (n + 1))))] [(.int (Int32.ofNat i))])) _
        refine XS.iloadN X0.here hx rfl (hb hby d24_13) rfl ?_
        show Steps p.tables e below (T0.setTop (mkF m 14 #[.val (.ref A0), .val (.int (Int32.ofNat i)), .val (.int P2), .val (.int (Int32.ofNat (i + (n + 1))))] [(.int (Int32.ofNat (i + (n + 1)))), (.int (Int32.ofNat i))])) _
        refine XS.icmpNo X0.here hx rfl (hb hby d24_14) rfl (tlt (show (Int32.ofNat i) < (Int32.ofNat (i + (n + 1))) from (own_lt (by omega) (by omega)).mpr (by omega))).2.1 ?_
        show Steps p.tables e below (T0.setTop (mkF m 17 #[.val (.ref A0), .val (.int (Int32.ofNat i)), .val (.int P2), .val (.int (Int32.ofNat (i + (n + 1))))] [])) _
        refine XS.aloadN X0.here hx rfl (hb hby d24_17) rfl rfl ?_
        show Steps p.tables e below (T0.setTop (mkF m 18 #[.val (.ref A0), .val (.int (Int32.ofNat i)), .val (.int P2), .val (.int (Int32.ofNat (i + (n + 1))))] [(.ref A0)])) _
        refine XS.iloadN X0.here hx rfl (hb hby d24_18) rfl ?_
        show Steps p.tables e below (T0.setTop (mkF m 19 #[.val (.ref A0), .val (.int (Int32.ofNat i)), .val (.int P2), .val (.int (Int32.ofNat (i + (n + 1))))] [(.int (Int32.ofNat i)), (.ref A0)])) _
        refine XS.aconstNull X0.here hx rfl (hb hby d24_19) ?_
        show Steps p.tables e below (T0.setTop (mkF m 20 #[.val (.ref A0), .val (.int (Int32.ofNat i)), .val (.int P2), .val (.int (Int32.ofNat (i + (n + 1))))] [.null, (.int (Int32.ofNat i)), (.ref A0)])) _
        refine st5002 _ ?_
        show Steps p.tables e below (T5002.setTop (mkF m 21 #[.val (.ref A0), .val (.int (Int32.ofNat i)), .val (.int P2), .val (.int (Int32.ofNat (i + (n + 1))))] [])) _
        refine XS.iinc X5002.here hx rfl (hb hby d24_21) rfl (l' := #[.val (.ref A0), .val (.int ((Int32.ofNat i) + (1 : Int32))), .val (.int P2), .val (.int (Int32.ofNat (i + (n + 1))))]) rfl ?_
        show Steps p.tables e below (T5002.setTop (mkF m 24 #[.val (.ref A0), .val (.int ((Int32.ofNat i) + (1 : Int32))), .val (.int P2), .val (.int (Int32.ofNat (i + (n + 1))))] [])) _
        refine XS.goto X5002.here hx rfl (pc0 := 24) (pc' := 12) rfl (hb hby d24_24) (by decide) (by decide) ?_
        exact kt)
    have pre5005 : ∀ t, Steps p.tables e below (T5002.setTop (mkF m 12 #[.val (.ref A0), .val (.int (Int32.ofNat (i + 1))), .val (.int P2), .val (.int (Int32.ofNat (i + (n + 1))))] [])) t → Steps p.tables e below (T0.setTop (mkF m 12 #[.val (.ref A0), .val (.int (Int32.ofNat i)), .val (.int P2), .val (.int (Int32.ofNat (i + (n + 1))))] [])) t := fun t kt => pre5004 t (Eq.mpr (congrArg (fun zz_ => Steps p.tables e below (T5002.setTop (mkF m 12 #[.val (.ref A0), .val (.int zz_), .val (.int P2), .val (.int (Int32.ofNat (i + (n + 1))))] [])) t) (show ((Int32.ofNat i) + (1 : Int32)) = (Int32.ofNat (i + 1)) from (Int32.ofNat_add i 1).symm)) kt)
    have pre5006 : ∀ t, Steps p.tables e below (T5002.setTop (mkF m 12 #[.val (.ref A0), .val (.int (Int32.ofNat (i + 1))), .val (.int P2), .val (.int (Int32.ofNat ((i + 1) + n)))] [])) t → Steps p.tables e below (T0.setTop (mkF m 12 #[.val (.ref A0), .val (.int (Int32.ofNat i)), .val (.int P2), .val (.int (Int32.ofNat (i + (n + 1))))] [])) t := fun t kt => pre5005 t (Eq.mpr (congrArg (fun zz_ => Steps p.tables e below (T5002.setTop (mkF m 12 #[.val (.ref A0), .val (.int (Int32.ofNat (i + 1))), .val (.int P2), .val (.int zz_)] [])) t) (show (Int32.ofNat (i + (n + 1))) = (Int32.ofNat ((i + 1) + n)) from congrArg Int32.ofNat (by omega))) kt)
    obtain ⟨T1, h1, lc1, X1, N1, e1, K1, F1, Z1, st1⟩ := ih (i + 1) _ T5002 h5002 _ X5002 e5002 N5002 V5002 Z5003 (by omega)
    refine ⟨T1, h1, lc1, X1, N1, e1, K_5003.trans K1 (allS (Or.inl (List.mem_of_getElem? (i := 0) rfl)) all0), F1.cong (fun j => ?_), Z1, fun t kt => pre5006 t (st1 t ?_)⟩
    · show (if i + 1 ≤ j ∧ j < i + 1 + n then Value.null else if j = i then Value.null else f j) = (if i ≤ j ∧ j < i + (n + 1) then Value.null else f j)
      by_cases a1 : i ≤ j ∧ j < i + (n + 1)
      · rw [if_pos a1]
        split
        · rfl
        · split
          · rfl
          · omega
      · rw [if_neg a1, if_neg (by omega), if_neg (by omega)]
    · rw [show i + 1 + n = i + (n + 1) by omega]; exact kt
theorem d24_0 : decode jdk_21_method_54_code 0 = .ok (.iload_n 1, 1) := by decide +kernel
theorem d24_1 : decode jdk_21_method_54_code 1 = .ok (.iload_n 2, 1) := by decide +kernel
theorem d24_2 : decode jdk_21_method_54_code 2 = .ok (.if_icmp .gt 7, 3) := by decide +kernel
theorem d24_5 : decode jdk_21_method_54_code 5 = .ok (.iload_n 2, 1) := by decide +kernel
theorem d24_6 : decode jdk_21_method_54_code 6 = .ok (.goto 5, 3) := by decide +kernel
theorem d24_9 : decode jdk_21_method_54_code 9 = .ok (.aload_n 0, 1) := by decide +kernel
theorem d24_10 : decode jdk_21_method_54_code 10 = .ok (.arraylength, 1) := by decide +kernel
theorem d24_11 : decode jdk_21_method_54_code 11 = .ok (.istore_n 3, 1) := by decide +kernel
theorem d24_27 : decode jdk_21_method_54_code 27 = .ok (.iload_n 3, 1) := by decide +kernel
theorem d24_28 : decode jdk_21_method_54_code 28 = .ok (.iload_n 2, 1) := by decide +kernel
theorem d24_29 : decode jdk_21_method_54_code 29 = .ok (.if_icmp .ne 6, 3) := by decide +kernel
theorem d24_32 : decode jdk_21_method_54_code 32 = .ok (.goto 10, 3) := by decide +kernel
theorem d24_35 : decode jdk_21_method_54_code 35 = .ok (.iconst 0, 1) := by decide +kernel
theorem d24_36 : decode jdk_21_method_54_code 36 = .ok (.istore_n 1, 1) := by decide +kernel
theorem d24_37 : decode jdk_21_method_54_code 37 = .ok (.iload_n 2, 1) := by decide +kernel
theorem d24_38 : decode jdk_21_method_54_code 38 = .ok (.istore_n 3, 1) := by decide +kernel
theorem d24_39 : decode jdk_21_method_54_code 39 = .ok (.goto (-27), 3) := by decide +kernel
theorem d24_42 : decode jdk_21_method_54_code 42 = .ok (.return_, 1) := by decide +kernel
theorem pn_24 : plainName "java/util/ArrayDeque" = true := by first | (simp [plainName, overriddenIn]; done) | decide +kernel
theorem ef_24 (m : MethodId) (A0 : Addr) : entryFrame m #[(.ref A0), (.int (Int32.ofNat HD)), (.int (Int32.ofNat ((HD + CN) % 17)))] 4 = mkF m 0 #[.val (.ref A0), .val (.int (Int32.ofNat HD)), .val (.int (Int32.ofNat ((HD + CN) % 17))), .unset] [] := by first | (simp [entryFrame, mkF, argsToLocals, Value.category]; done) | rfl
def Q24 (Z : State) (A0 : Addr) (FF : Nat → Value) (HD : Nat) (CN : Nat) (h0 : Heap) (n0 : Nat) (v : Option Value) (h : Heap) (L : List Loc) : Prop := ∃ FG : Nat → Value, (v = none) ∧ (Fr n0 L) ∧ (Keep h0 h [A0]) ∧ (own_El Z h A0 FG) ∧ (∀ i, i < 17 → FG i = Value.null)
set_option maxRecDepth 65536 in
set_option maxHeartbeats 40000000 in
theorem rm24 (l : Launch) (Z : State) (a0 : Array Value) (hw : ∀ d ∈ tables_1, d.before a0 Z = true) (ws : List Jvm.Cond) (A0 : Addr) (FF : Nat → Value) (HD : Nat) (CN : Nat) (h0 : Heap) (n0 : Nat) (Z0 : n0 ≤ h0.size) (pm0 : own_El Z h0 A0 FF) (hq : own_Dq FF HD CN) (g_A0 : n0 ≤ A0) :
    MetFree l (⟨"java/util/ArrayDeque", "circularClear", "([Ljava/lang/Object;II)V"⟩ : MethodName) (head1 (Jvm.Cond.code (⟨"java/util/ArrayDeque", "circularClear", "([Ljava/lang/Object;II)V"⟩ : MethodName) jdk_21_method_54_code 4 none :: ws) ({ frames := 0, cells := 0, slots := 0, locals := 0 } : Room)) (fun a U => a = #[(.ref A0), (.int (Int32.ofNat HD)), (.int (Int32.ofNat ((HD + CN) % 17)))] ∧ Z.Warmed39 U.vm ∧ U.heap = h0) (fun _ _ _ _ _ => True) (fun _ U o U' => ∃ v L, o = .returned v ∧ Q24 Z A0 FF HD CN h0 n0 v U'.heap L ∧ FrameEnd U o U' L ({ frames := 0, cells := 0, slots := 0, locals := 0 } : Room).cells ({ frames := 0, cells := 0, slots := 0, locals := 0 } : Room).slots) := by
  refine MetFree.of_bodySF (plainFor_of_name pn_24) hisR ?_
  intro p e s m args below meth c s₁ Bd hml0 hP hK
  obtain ⟨rfl, hZ, hh⟩ := hP
  have hx := Bd.exec
  have hby := Bd.bytes
  have hml : c.maxLocals = 4 := hml0
  have hown : s.vm.findClass "java/util/ArrayDeque" = some m.cls := findClass_of_methodNamed Bd.named
  have hnm := (name_of_methodNamed Bd.named Bd.method).1
  have X0 : Stand p l e ({ frames := 0, cells := 0, slots := 0, locals := 0 } : Room) s m #[(.ref A0), (.int (Int32.ofNat HD)), (.int (Int32.ofNat ((HD + CN) % 17)))] below meth c s₁ [] 0 0 := Stand.of_body Bd
  have e0 : s₁.heap = h0 := by rw [← hh, Bd.state]; rfl
  have N0 := Fr.nil n0
  have pre0 : ∀ t, Steps p.tables e below (s₁.setTop (mkF m 0 #[.val (.ref A0), .val (.int (Int32.ofNat HD)), .val (.int (Int32.ofNat ((HD + CN) % 17))), .unset] [])) t → Steps p.tables e below (s₁.setTop (entryFrame m #[(.ref A0), (.int (Int32.ofNat HD)), (.int (Int32.ofNat ((HD + CN) % 17)))] 4)) t := fun t k => castTop (ef_24 m A0) k
  have K_0 : Keep h0 h0 [A0] := Keep.refl h0 _
  have hq1 := hq.1
  have hq2 := hq.2.1
  have pre101 : ∀ t, Steps p.tables e below (s₁.setTop (mkF m 2 #[.val (.ref A0), .val (.int (Int32.ofNat HD)), .val (.int (Int32.ofNat ((HD + CN) % 17))), .unset] [(.int (Int32.ofNat ((HD + CN) % 17))), (.int (Int32.ofNat HD))])) t → Steps p.tables e below (s₁.setTop (entryFrame m #[(.ref A0), (.int (Int32.ofNat HD)), (.int (Int32.ofNat ((HD + CN) % 17)))] 4)) t := fun t kt => pre0 t (by
      show Steps p.tables e below (s₁.setTop (mkF m 0 #[.val (.ref A0), .val (.int (Int32.ofNat HD)), .val (.int (Int32.ofNat ((HD + CN) % 17))), .unset] [])) _
      refine XS.iloadN X0.here hx rfl (hb hby d24_0) rfl ?_
      show Steps p.tables e below (s₁.setTop (mkF m 1 #[.val (.ref A0), .val (.int (Int32.ofNat HD)), .val (.int (Int32.ofNat ((HD + CN) % 17))), .unset] [(.int (Int32.ofNat HD))])) _
      refine XS.iloadN X0.here hx rfl (hb hby d24_1) rfl ?_
      exact kt)
  by_cases hc2 : (Int32.ofNat ((HD + CN) % 17)) < (Int32.ofNat HD)
  · obtain ⟨cl102, Ar102, -, S102, -, -⟩ := id pm0
    have wr : 17 ≤ HD + CN := by
      have q : (HD + CN) % 17 < HD := (own_lt (by omega) (by omega)).mp hc2
      omega
    have pre103 : ∀ t, Steps p.tables e below (s₁.setTop (mkF m 12 #[.val (.ref A0), .val (.int (Int32.ofNat HD)), .val (.int (Int32.ofNat ((HD + CN) % 17))), .val (.int (17 : Int32))] [])) t → Steps p.tables e below (s₁.setTop (entryFrame m #[(.ref A0), (.int (Int32.ofNat HD)), (.int (Int32.ofNat ((HD + CN) % 17)))] 4)) t := fun t kt => pre101 t (by
        show Steps p.tables e below (s₁.setTop (mkF m 2 #[.val (.ref A0), .val (.int (Int32.ofNat HD)), .val (.int (Int32.ofNat ((HD + CN) % 17))), .unset] [(.int (Int32.ofNat ((HD + CN) % 17))), (.int (Int32.ofNat HD))])) _
        refine XS.icmpYes X0.here hx rfl (pc0 := 2) (pc' := 9) rfl (hb hby d24_2) rfl (tlt hc2).2.2.1 (by decide) (by decide) ?_
        show Steps p.tables e below (s₁.setTop (mkF m 9 #[.val (.ref A0), .val (.int (Int32.ofNat HD)), .val (.int (Int32.ofNat ((HD + CN) % 17))), .unset] [])) _
        refine XS.aloadN X0.here hx rfl (hb hby d24_9) rfl rfl ?_
        show Steps p.tables e below (s₁.setTop (mkF m 10 #[.val (.ref A0), .val (.int (Int32.ofNat HD)), .val (.int (Int32.ofNat ((HD + CN) % 17))), .unset] [(.ref A0)])) _
        refine X0.arraylength hx (by rw [e0]; exact Ar102.1) (State.isArrayOf_alike hZ.alike Ar102.2.1) (g := (mkF m 10 #[.val (.ref A0), .val (.int (Int32.ofNat HD)), .val (.int (Int32.ofNat ((HD + CN) % 17))), .unset] [(.ref A0)])) rfl rfl (hb hby d24_10) _ ?_
        rw [show cl102.slots.size.toInt32 = (17 : Int32) from by rw [S102] <;> rfl]
        show Steps p.tables e below (s₁.setTop (mkF m 11 #[.val (.ref A0), .val (.int (Int32.ofNat HD)), .val (.int (Int32.ofNat ((HD + CN) % 17))), .unset] [(.int (17 : Int32))])) _
        refine XS.istoreN X0.here hx rfl (hb hby d24_11) rfl (l' := #[.val (.ref A0), .val (.int (Int32.ofNat HD)), .val (.int (Int32.ofNat ((HD + CN) % 17))), .val (.int (17 : Int32))]) rfl ?_
        exact kt)
    have pre104 : ∀ t, Steps p.tables e below (s₁.setTop (mkF m 12 #[.val (.ref A0), .val (.int (Int32.ofNat HD)), .val (.int (Int32.ofNat ((HD + CN) % 17))), .val (.int (Int32.ofNat (HD + (17 - HD))))] [])) t → Steps p.tables e below (s₁.setTop (entryFrame m #[(.ref A0), (.int (Int32.ofNat HD)), (.int (Int32.ofNat ((HD + CN) % 17)))] 4)) t := fun t kt => pre103 t (Eq.mpr (congrArg (fun zz_ => Steps p.tables e below (s₁.setTop (mkF m 12 #[.val (.ref A0), .val (.int (Int32.ofNat HD)), .val (.int (Int32.ofNat ((HD + CN) % 17))), .val (.int zz_)] [])) t) (show (17 : Int32) = (Int32.ofNat (HD + (17 - HD))) from (show Int32.ofNat 17 = _ from congrArg Int32.ofNat (by omega)))) kt)
    obtain ⟨T105, h105, lc105, X105, N105, e105, K105, V105, zz105, st105⟩ := own_lpc (a0 := a0) (P2 := (Int32.ofNat ((HD + CN) % 17))) hx hZ hw hby hml hown g_A0 (17 - HD) HD FF s₁ h0 _ X0 e0 N0 pm0 Z0 (by omega)
    have Z106 : n0 ≤ h105.size := Nat.le_trans Z0 K105.1
    have K_106 : Keep h0 h105 [A0] := K_0.trans K105 (allS (Or.inl (List.mem_of_getElem? (i := 0) rfl)) all0)
    have pre107 : ∀ t, Steps p.tables e below (T105.setTop (mkF m 12 #[.val (.ref A0), .val (.int (0 : Int32)), .val (.int (Int32.ofNat ((HD + CN) % 17))), .val (.int (Int32.ofNat ((HD + CN) % 17)))] [])) t → Steps p.tables e below (s₁.setTop (entryFrame m #[(.ref A0), (.int (Int32.ofNat HD)), (.int (Int32.ofNat ((HD + CN) % 17)))] 4)) t := fun t kt => pre104 t (by
        refine st105 _ ?_
        show Steps p.tables e below (T105.setTop (mkF m 27 #[.val (.ref A0), .val (.int (Int32.ofNat (HD + (17 - HD)))), .val (.int (Int32.ofNat ((HD + CN) % 17))), .val (.int (Int32.ofNat (HD + (17 - HD))))] [])) _
        refine XS.iloadN X105.here hx rfl (hb hby d24_27) rfl ?_
        show Steps p.tables e below (T105.setTop (mkF m 28 #[.val (.ref A0), .val (.int (Int32.ofNat (HD + (17 - HD)))), .val (.int (Int32.ofNat ((HD + CN) % 17))), .val (.int (Int32.ofNat (HD + (17 - HD))))] [(.int (Int32.ofNat (HD + (17 - HD))))])) _
        refine XS.iloadN X105.here hx rfl (hb hby d24_28) rfl ?_
        show Steps p.tables e below (T105.setTop (mkF m 29 #[.val (.ref A0), .val (.int (Int32.ofNat (HD + (17 - HD)))), .val (.int (Int32.ofNat ((HD + CN) % 17))), .val (.int (Int32.ofNat (HD + (17 - HD))))] [(.int (Int32.ofNat ((HD + CN) % 17))), (.int (Int32.ofNat (HD + (17 - HD))))])) _
        refine XS.icmpYes X105.here hx rfl (pc0 := 29) (pc' := 35) rfl (hb hby d24_29) rfl (feq (show ¬ ((Int32.ofNat (HD + (17 - HD))) = (Int32.ofNat ((HD + CN) % 17))) from (by rw [← Int32.toInt_inj, own_nat _ (by omega), own_nat _ (by omega)]; omega))).2 (by decide) (by decide) ?_
        show Steps p.tables e below (T105.setTop (mkF m 35 #[.val (.ref A0), .val (.int (Int32.ofNat (HD + (17 - HD)))), .val (.int (Int32.ofNat ((HD + CN) % 17))), .val (.int (Int32.ofNat (HD + (17 - HD))))] [])) _
        refine XS.iconst X105.here hx rfl (hb hby d24_35) ?_
        show Steps p.tables e below (T105.setTop (mkF m 36 #[.val (.ref A0), .val (.int (Int32.ofNat (HD + (17 - HD)))), .val (.int (Int32.ofNat ((HD + CN) % 17))), .val (.int (Int32.ofNat (HD + (17 - HD))))] [(.int (0 : Int32))])) _
        refine XS.istoreN X105.here hx rfl (hb hby d24_36) rfl (l' := #[.val (.ref A0), .val (.int (0 : Int32)), .val (.int (Int32.ofNat ((HD + CN) % 17))), .val (.int (Int32.ofNat (HD + (17 - HD))))]) rfl ?_
        show Steps p.tables e below (T105.setTop (mkF m 37 #[.val (.ref A0), .val (.int (0 : Int32)), .val (.int (Int32.ofNat ((HD + CN) % 17))), .val (.int (Int32.ofNat (HD + (17 - HD))))] [])) _
        refine XS.iloadN X105.here hx rfl (hb hby d24_37) rfl ?_
        show Steps p.tables e below (T105.setTop (mkF m 38 #[.val (.ref A0), .val (.int (0 : Int32)), .val (.int (Int32.ofNat ((HD + CN) % 17))), .val (.int (Int32.ofNat (HD + (17 - HD))))] [(.int (Int32.ofNat ((HD + CN) % 17)))])) _
        refine XS.istoreN X105.here hx rfl (hb hby d24_38) rfl (l' := #[.val (.ref A0), .val (.int (0 : Int32)), .val (.int (Int32.ofNat ((HD + CN) % 17))), .val (.int (Int32.ofNat ((HD + CN) % 17)))]) rfl ?_
        show Steps p.tables e below (T105.setTop (mkF m 39 #[.val (.ref A0), .val (.int (0 : Int32)), .val (.int (Int32.ofNat ((HD + CN) % 17))), .val (.int (Int32.ofNat ((HD + CN) % 17)))] [])) _
        refine XS.goto X105.here hx rfl (pc0 := 39) (pc' := 12) rfl (hb hby d24_39) (by decide) (by decide) ?_
        exact kt)
    have pre108 : ∀ t, Steps p.tables e below (T105.setTop (mkF m 12 #[.val (.ref A0), .val (.int (Int32.ofNat 0)), .val (.int (Int32.ofNat ((HD + CN) % 17))), .val (.int (Int32.ofNat ((HD + CN) % 17)))] [])) t → Steps p.tables e below (s₁.setTop (entryFrame m #[(.ref A0), (.int (Int32.ofNat HD)), (.int (Int32.ofNat ((HD + CN) % 17)))] 4)) t := fun t kt => pre107 t (Eq.mpr (congrArg (fun zz_ => Steps p.tables e below (T105.setTop (mkF m 12 #[.val (.ref A0), .val (.int zz_), .val (.int (Int32.ofNat ((HD + CN) % 17))), .val (.int (Int32.ofNat ((HD + CN) % 17)))] [])) t) (show (0 : Int32) = (Int32.ofNat 0) from rfl)) kt)
    have pre109 : ∀ t, Steps p.tables e below (T105.setTop (mkF m 12 #[.val (.ref A0), .val (.int (Int32.ofNat 0)), .val (.int (Int32.ofNat ((HD + CN) % 17))), .val (.int (Int32.ofNat (0 + ((HD + CN) % 17))))] [])) t → Steps p.tables e below (s₁.setTop (entryFrame m #[(.ref A0), (.int (Int32.ofNat HD)), (.int (Int32.ofNat ((HD + CN) % 17)))] 4)) t := fun t kt => pre108 t (Eq.mpr (congrArg (fun zz_ => Steps p.tables e below (T105.setTop (mkF m 12 #[.val (.ref A0), .val (.int (Int32.ofNat 0)), .val (.int (Int32.ofNat ((HD + CN) % 17))), .val (.int zz_)] [])) t) (show (Int32.ofNat ((HD + CN) % 17)) = (Int32.ofNat (0 + ((HD + CN) % 17))) from congrArg Int32.ofNat (by omega))) kt)
    obtain ⟨T110, h110, lc110, X110, N110, e110, K110, V110, zz110, st110⟩ := own_lpc (a0 := a0) (P2 := (Int32.ofNat ((HD + CN) % 17))) hx hZ hw hby hml hown g_A0 ((HD + CN) % 17) 0 (fun j => if HD ≤ j ∧ j < HD + (17 - HD) then Value.null else FF j) T105 h105 _ X105 e105 N105 V105 Z106 (by omega)
    have Z111 : n0 ≤ h110.size := Nat.le_trans Z106 K110.1
    have K_111 : Keep h0 h110 [A0] := K_106.trans K110 (allS (Or.inl (List.mem_of_getElem? (i := 0) rfl)) all0)
    have pre112 : ∀ t, Steps p.tables e below (T110.setTop (mkF m 42 #[.val (.ref A0), .val (.int (Int32.ofNat (0 + ((HD + CN) % 17)))), .val (.int (Int32.ofNat ((HD + CN) % 17))), .val (.int (Int32.ofNat (0 + ((HD + CN) % 17))))] [])) t → Steps p.tables e below (s₁.setTop (entryFrame m #[(.ref A0), (.int (Int32.ofNat HD)), (.int (Int32.ofNat ((HD + CN) % 17)))] 4)) t := fun t kt => pre109 t (by
        refine st110 _ ?_
        show Steps p.tables e below (T110.setTop (mkF m 27 #[.val (.ref A0), .val (.int (Int32.ofNat (0 + ((HD + CN) % 17)))), .val (.int (Int32.ofNat ((HD + CN) % 17))), .val (.int (Int32.ofNat (0 + ((HD + CN) % 17))))] [])) _
        refine XS.iloadN X110.here hx rfl (hb hby d24_27) rfl ?_
        show Steps p.tables e below (T110.setTop (mkF m 28 #[.val (.ref A0), .val (.int (Int32.ofNat (0 + ((HD + CN) % 17)))), .val (.int (Int32.ofNat ((HD + CN) % 17))), .val (.int (Int32.ofNat (0 + ((HD + CN) % 17))))] [(.int (Int32.ofNat (0 + ((HD + CN) % 17))))])) _
        refine XS.iloadN X110.here hx rfl (hb hby d24_28) rfl ?_
        show Steps p.tables e below (T110.setTop (mkF m 29 #[.val (.ref A0), .val (.int (Int32.ofNat (0 + ((HD + CN) % 17)))), .val (.int (Int32.ofNat ((HD + CN) % 17))), .val (.int (Int32.ofNat (0 + ((HD + CN) % 17))))] [(.int (Int32.ofNat ((HD + CN) % 17))), (.int (Int32.ofNat (0 + ((HD + CN) % 17))))])) _
        refine XS.icmpNo X110.here hx rfl (hb hby d24_29) rfl (teq (show (Int32.ofNat (0 + ((HD + CN) % 17))) = (Int32.ofNat ((HD + CN) % 17)) from congrArg Int32.ofNat (by omega))).2 ?_
        show Steps p.tables e below (T110.setTop (mkF m 32 #[.val (.ref A0), .val (.int (Int32.ofNat (0 + ((HD + CN) % 17)))), .val (.int (Int32.ofNat ((HD + CN) % 17))), .val (.int (Int32.ofNat (0 + ((HD + CN) % 17))))] [])) _
        refine XS.goto X110.here hx rfl (pc0 := 32) (pc' := 42) rfl (hb hby d24_32) (by decide) (by decide) ?_
        exact kt)
    obtain ⟨fs, hr, hrun, hended, hW, hsame⟩ := X110.leave (v := none) (fun _ => rfl)
    refine ⟨_, _, pre112 _ ?_, hrun, hended, _, _, rfl, ?_, ⟨_, rfl⟩, hW, hsame.mono (by decide) (by decide)⟩
    · show Steps p.tables e below (T110.setTop (mkF m 42 #[.val (.ref A0), .val (.int (Int32.ofNat (0 + ((HD + CN) % 17)))), .val (.int (Int32.ofNat ((HD + CN) % 17))), .val (.int (Int32.ofNat (0 + ((HD + CN) % 17))))] [])) _
      exact X110.returnOut hx Bd.returns (hb hby d24_42) hr
    · show Q24 Z A0 FF HD CN h0 n0 _ T110.heap _
      rw [e110]
      exact ⟨(fun j => if 0 ≤ j ∧ j < 0 + ((HD + CN) % 17) then Value.null else (fun j => if HD ≤ j ∧ j < HD + (17 - HD) then Value.null else FF j) j), rfl, N110, K_111, V110, (own_clr2 hq wr)⟩
  · have wr : HD + CN < 17 := by
      have q : ¬ ((HD + CN) % 17 < HD) := fun z => hc2 ((own_lt (by omega) (by omega)).mpr z)
      omega
    have pre113 : ∀ t, Steps p.tables e below (s₁.setTop (mkF m 12 #[.val (.ref A0), .val (.int (Int32.ofNat HD)), .val (.int (Int32.ofNat ((HD + CN) % 17))), .val (.int (Int32.ofNat ((HD + CN) % 17)))] [])) t → Steps p.tables e below (s₁.setTop (entryFrame m #[(.ref A0), (.int (Int32.ofNat HD)), (.int (Int32.ofNat ((HD + CN) % 17)))] 4)) t := fun t kt => pre101 t (by
        show Steps p.tables e below (s₁.setTop (mkF m 2 #[.val (.ref A0), .val (.int (Int32.ofNat HD)), .val (.int (Int32.ofNat ((HD + CN) % 17))), .unset] [(.int (Int32.ofNat ((HD + CN) % 17))), (.int (Int32.ofNat HD))])) _
        refine XS.icmpNo X0.here hx rfl (hb hby d24_2) rfl (flt hc2).2.2.1 ?_
        show Steps p.tables e below (s₁.setTop (mkF m 5 #[.val (.ref A0), .val (.int (Int32.ofNat HD)), .val (.int (Int32.ofNat ((HD + CN) % 17))), .unset] [])) _
        refine XS.iloadN X0.here hx rfl (hb hby d24_5) rfl ?_
        show Steps p.tables e below (s₁.setTop (mkF m 6 #[.val (.ref A0), .val (.int (Int32.ofNat HD)), .val (.int (Int32.ofNat ((HD + CN) % 17))), .unset] [(.int (Int32.ofNat ((HD + CN) % 17)))])) _
        refine XS.goto X0.here hx rfl (pc0 := 6) (pc' := 11) rfl (hb hby d24_6) (by decide) (by decide) ?_
        show Steps p.tables e below (s₁.setTop (mkF m 11 #[.val (.ref A0), .val (.int (Int32.ofNat HD)), .val (.int (Int32.ofNat ((HD + CN) % 17))), .unset] [(.int (Int32.ofNat ((HD + CN) % 17)))])) _
        refine XS.istoreN X0.here hx rfl (hb hby d24_11) rfl (l' := #[.val (.ref A0), .val (.int (Int32.ofNat HD)), .val (.int (Int32.ofNat ((HD + CN) % 17))), .val (.int (Int32.ofNat ((HD + CN) % 17)))]) rfl ?_
        exact kt)
    have pre114 : ∀ t, Steps p.tables e below (s₁.setTop (mkF m 12 #[.val (.ref A0), .val (.int (Int32.ofNat HD)), .val (.int (Int32.ofNat ((HD + CN) % 17))), .val (.int (Int32.ofNat (HD + CN)))] [])) t → Steps p.tables e below (s₁.setTop (entryFrame m #[(.ref A0), (.int (Int32.ofNat HD)), (.int (Int32.ofNat ((HD + CN) % 17)))] 4)) t := fun t kt => pre113 t (Eq.mpr (congrArg (fun zz_ => Steps p.tables e below (s₁.setTop (mkF m 12 #[.val (.ref A0), .val (.int (Int32.ofNat HD)), .val (.int (Int32.ofNat ((HD + CN) % 17))), .val (.int zz_)] [])) t) (show (Int32.ofNat ((HD + CN) % 17)) = (Int32.ofNat (HD + CN)) from congrArg Int32.ofNat (by omega))) kt)
    obtain ⟨T115, h115, lc115, X115, N115, e115, K115, V115, zz115, st115⟩ := own_lpc (a0 := a0) (P2 := (Int32.ofNat ((HD + CN) % 17))) hx hZ hw hby hml hown g_A0 CN HD FF s₁ h0 _ X0 e0 N0 pm0 Z0 (by omega)
    have Z116 : n0 ≤ h115.size := Nat.le_trans Z0 K115.1
    have K_116 : Keep h0 h115 [A0] := K_0.trans K115 (allS (Or.inl (List.mem_of_getElem? (i := 0) rfl)) all0)
    have pre117 : ∀ t, Steps p.tables e below (T115.setTop (mkF m 42 #[.val (.ref A0), .val (.int (Int32.ofNat (HD + CN))), .val (.int (Int32.ofNat ((HD + CN) % 17))), .val (.int (Int32.ofNat (HD + CN)))] [])) t → Steps p.tables e below (s₁.setTop (entryFrame m #[(.ref A0), (.int (Int32.ofNat HD)), (.int (Int32.ofNat ((HD + CN) % 17)))] 4)) t := fun t kt => pre114 t (by
        refine st115 _ ?_
        show Steps p.tables e below (T115.setTop (mkF m 27 #[.val (.ref A0), .val (.int (Int32.ofNat (HD + CN))), .val (.int (Int32.ofNat ((HD + CN) % 17))), .val (.int (Int32.ofNat (HD + CN)))] [])) _
        refine XS.iloadN X115.here hx rfl (hb hby d24_27) rfl ?_
        show Steps p.tables e below (T115.setTop (mkF m 28 #[.val (.ref A0), .val (.int (Int32.ofNat (HD + CN))), .val (.int (Int32.ofNat ((HD + CN) % 17))), .val (.int (Int32.ofNat (HD + CN)))] [(.int (Int32.ofNat (HD + CN)))])) _
        refine XS.iloadN X115.here hx rfl (hb hby d24_28) rfl ?_
        show Steps p.tables e below (T115.setTop (mkF m 29 #[.val (.ref A0), .val (.int (Int32.ofNat (HD + CN))), .val (.int (Int32.ofNat ((HD + CN) % 17))), .val (.int (Int32.ofNat (HD + CN)))] [(.int (Int32.ofNat ((HD + CN) % 17))), (.int (Int32.ofNat (HD + CN)))])) _
        refine XS.icmpNo X115.here hx rfl (hb hby d24_29) rfl (teq (show (Int32.ofNat (HD + CN)) = (Int32.ofNat ((HD + CN) % 17)) from congrArg Int32.ofNat (by omega))).2 ?_
        show Steps p.tables e below (T115.setTop (mkF m 32 #[.val (.ref A0), .val (.int (Int32.ofNat (HD + CN))), .val (.int (Int32.ofNat ((HD + CN) % 17))), .val (.int (Int32.ofNat (HD + CN)))] [])) _
        refine XS.goto X115.here hx rfl (pc0 := 32) (pc' := 42) rfl (hb hby d24_32) (by decide) (by decide) ?_
        exact kt)
    obtain ⟨fs, hr, hrun, hended, hW, hsame⟩ := X115.leave (v := none) (fun _ => rfl)
    refine ⟨_, _, pre117 _ ?_, hrun, hended, _, _, rfl, ?_, ⟨_, rfl⟩, hW, hsame.mono (by decide) (by decide)⟩
    · show Steps p.tables e below (T115.setTop (mkF m 42 #[.val (.ref A0), .val (.int (Int32.ofNat (HD + CN))), .val (.int (Int32.ofNat ((HD + CN) % 17))), .val (.int (Int32.ofNat (HD + CN)))] [])) _
      exact X115.returnOut hx Bd.returns (hb hby d24_42) hr
    · show Q24 Z A0 FF HD CN h0 n0 _ T115.heap _
      rw [e115]
      exact ⟨(fun j => if HD ≤ j ∧ j < HD + CN then Value.null else FF j), rfl, N115, K_116, V115, (own_clr1 hq wr)⟩
theorem d23_0 : decode jdk_21_method_53_code 0 = .ok (.aload_n 0, 1) := by decide +kernel
theorem d23_1 : decode jdk_21_method_53_code 1 = .ok (.getfield 3, 3) := by decide +kernel
theorem d23_4 : decode jdk_21_method_53_code 4 = .ok (.aload_n 0, 1) := by decide +kernel
theorem d23_5 : decode jdk_21_method_53_code 5 = .ok (.getfield 24, 3) := by decide +kernel
theorem d23_8 : decode jdk_21_method_53_code 8 = .ok (.aload_n 0, 1) := by decide +kernel
theorem d23_9 : decode jdk_21_method_53_code 9 = .ok (.getfield 20, 3) := by decide +kernel
theorem d23_12 : decode jdk_21_method_53_code 12 = .ok (.invokestatic 181, 3) := by decide +kernel
theorem d23_15 : decode jdk_21_method_53_code 15 = .ok (.aload_n 0, 1) := by decide +kernel
theorem d23_16 : decode jdk_21_method_53_code 16 = .ok (.aload_n 0, 1) := by decide +kernel
theorem d23_17 : decode jdk_21_method_53_code 17 = .ok (.iconst 0, 1) := by decide +kernel
theorem d23_18 : decode jdk_21_method_53_code 18 = .ok (.dup_x1, 1) := by decide +kernel
theorem d23_19 : decode jdk_21_method_53_code 19 = .ok (.putfield 20, 3) := by decide +kernel
theorem d23_22 : decode jdk_21_method_53_code 22 = .ok (.putfield 24, 3) := by decide +kernel
theorem d23_25 : decode jdk_21_method_53_code 25 = .ok (.return_, 1) := by decide +kernel
theorem pn_23 : plainName "java/util/ArrayDeque" = true := by first | (simp [plainName, overriddenIn]; done) | decide +kernel
theorem pd_23_0 : parseMethodDescriptor "([Ljava/lang/Object;II)V" = some ⟨[(.array (.object "java/lang/Object")), .int, .int], none⟩ := by decide +kernel
theorem ef_23 (m : MethodId) (A0 : Addr) : entryFrame m #[(.ref A0)] 1 = mkF m 0 #[.val (.ref A0)] [] := by first | (simp [entryFrame, mkF, argsToLocals, Value.category]; done) | rfl
def Q23 (Z : State) (A0 : Addr) (E0 : Addr) (FF : Nat → Value) (HD : Nat) (CN : Nat) (h0 : Heap) (n0 : Nat) (v : Option Value) (h : Heap) (L : List Loc) : Prop := ∃ FG : Nat → Value, (v = none) ∧ (Fr n0 L) ∧ (Keep h0 h [A0, E0]) ∧ (Exa Z h A0 "java/util/ArrayDeque") ∧ (Fld Z h A0 "java/util/ArrayDeque" "elements" "[Ljava/lang/Object;" (.ref E0)) ∧ (Fld Z h A0 "java/util/ArrayDeque" "head" "I" (.int (Int32.ofNat 0))) ∧ (Fld Z h A0 "java/util/ArrayDeque" "tail" "I" (.int (Int32.ofNat ((0 + 0) % 17)))) ∧ (own_El Z h E0 FG) ∧ (own_Dq FG 0 0)
set_option maxRecDepth 65536 in
set_option maxHeartbeats 40000000 in
theorem rm23 (l : Launch) (Z : State) (a0 : Array Value) (hw : ∀ d ∈ tables_1, d.before a0 Z = true) (ws : List Jvm.Cond) (A0 : Addr) (E0 : Addr) (FF : Nat → Value) (HD : Nat) (CN : Nat) (h0 : Heap) (n0 : Nat) (Z0 : n0 ≤ h0.size) (pm0 : Exa Z h0 A0 "java/util/ArrayDeque") (pm1 : Fld Z h0 A0 "java/util/ArrayDeque" "elements" "[Ljava/lang/Object;" (.ref E0)) (pm2 : Fld Z h0 A0 "java/util/ArrayDeque" "head" "I" (.int (Int32.ofNat HD))) (pm3 : Fld Z h0 A0 "java/util/ArrayDeque" "tail" "I" (.int (Int32.ofNat ((HD + CN) % 17)))) (pm4 : own_El Z h0 E0 FF) (hq : own_Dq FF HD CN) (nDE : A0 ≠ E0) (g_A0 : n0 ≤ A0) (g_E0 : n0 ≤ E0) :
    MetFree l (⟨"java/util/ArrayDeque", "clear", "()V"⟩ : MethodName) (head1 (Jvm.Cond.code (⟨"java/util/ArrayDeque", "clear", "()V"⟩ : MethodName) jdk_21_method_53_code 1 none :: ws) ({ frames := 1, cells := 0, slots := 0, locals := 15 } : Room)) (fun a U => a = #[(.ref A0)] ∧ Z.Warmed39 U.vm ∧ U.heap = h0) (fun _ _ _ _ _ => True) (fun _ U o U' => ∃ v L, o = .returned v ∧ Q23 Z A0 E0 FF HD CN h0 n0 v U'.heap L ∧ FrameEnd U o U' L ({ frames := 1, cells := 0, slots := 0, locals := 15 } : Room).cells ({ frames := 1, cells := 0, slots := 0, locals := 15 } : Room).slots) := by
  refine MetFree.of_bodySF (plainFor_of_name pn_23) hisR ?_
  intro p e s m args below meth c s₁ Bd hml0 hP hK
  obtain ⟨rfl, hZ, hh⟩ := hP
  have hx := Bd.exec
  have hby := Bd.bytes
  have hml : c.maxLocals = 1 := hml0
  have hown : s.vm.findClass "java/util/ArrayDeque" = some m.cls := findClass_of_methodNamed Bd.named
  have hnm := (name_of_methodNamed Bd.named Bd.method).1
  have X0 : Stand p l e ({ frames := 1, cells := 0, slots := 0, locals := 15 } : Room) s m #[(.ref A0)] below meth c s₁ [] 0 0 := Stand.of_body Bd
  have e0 : s₁.heap = h0 := by rw [← hh, Bd.state]; rfl
  have N0 := Fr.nil n0
  have pre0 : ∀ t, Steps p.tables e below (s₁.setTop (mkF m 0 #[.val (.ref A0)] [])) t → Steps p.tables e below (s₁.setTop (entryFrame m #[(.ref A0)] 1)) t := fun t k => castTop (ef_23 m A0) k
  have K_0 : Keep h0 h0 [A0, E0] := Keep.refl h0 _
  obtain ⟨T101, X101, e101, st101⟩ := getF X0 hx hZ hown (host := "") (Or.inl (hw _ (List.mem_of_getElem? (i := 24) rfl))) Via.refl e0 pm1 (g := (mkF m 1 #[.val (.ref A0)] [(.ref A0)])) rfl rfl (hb hby d23_1)
  obtain ⟨T102, X102, e102, st102⟩ := getF X101 hx hZ hown (host := "") (Or.inl (hw _ (List.mem_of_getElem? (i := 63) rfl))) Via.refl e101 pm2 (g := (mkF m 5 #[.val (.ref A0)] [(.ref A0), (.ref E0)])) rfl rfl (hb hby d23_5)
  obtain ⟨T103, X103, e103, st103⟩ := getF X102 hx hZ hown (host := "") (Or.inl (hw _ (List.mem_of_getElem? (i := 60) rfl))) Via.refl e102 pm3 (g := (mkF m 9 #[.val (.ref A0)] [(.ref A0), (.int (Int32.ofNat HD)), (.ref E0)])) rfl rfl (hb hby d23_9)
  obtain ⟨_, _, ⟨T104, L104, k104, n104⟩, -, X104, ⟨Lc104, hQ104, l104, y104, z104⟩, st104⟩ := Jvm.LawKit.callS X103 hx (y := (⟨"java/util/ArrayDeque", "circularClear", "([Ljava/lang/Object;II)V"⟩ : MethodName)) hown (mvT hZ (hw _ (List.mem_of_getElem? (i := 159) rfl))) (mvT hZ (hw _ (List.mem_of_getElem? (i := 160) rfl))) (mvT hZ (hw _ (List.mem_of_getElem? (i := 11) rfl))) (mvT hZ (hw _ (List.mem_of_getElem? (i := 161) rfl))) (by decide) (backOf (W := 0) (rm24 l Z a0 hw [] E0 FF HD CN h0 n0 Z0 pm4 (show own_Dq FF HD CN from hq) g_E0) hZ (hw _ (List.mem_of_getElem? (i := 161) rfl)) (hw _ (List.mem_of_getElem? (i := 11) rfl)) (by decide) (by decide)) (g := (mkF m 12 #[.val (.ref A0)] [(.int (Int32.ofNat ((HD + CN) % 17))), (.int (Int32.ofNat HD)), (.ref E0)])) rfl (by rw [hml]; rfl) (argsL := [(.ref E0), (.int (Int32.ofNat HD)), (.int (Int32.ofNat ((HD + CN) % 17)))]) (rest := []) (lenOf pd_23_0 rfl) rfl (by show 2 * 0 + _ ≤ _; exact Nat.le_of_eq rfl) (hb hby d23_12) (fun _ _ => ⟨rfl, e103, (by decide : 0 + 0 ≤ _), (by decide : 0 + 0 ≤ _)⟩)
  dsimp only [Pt.U, Pt.locs, Pt.cells, Pt.slots] at X104 l104 y104 z104 st104 hQ104
  subst l104 y104 z104
  obtain ⟨x104_FG, rfl, N104q, K104, p104_0, p104_1⟩ := hQ104
  have N104 := Fr.app N0 N104q
  have Z105 : n0 ≤ T104.heap.size := Nat.le_trans Z0 K104.1
  have K_105 : Keep h0 T104.heap [A0, E0] := K_0.trans K104 (allS (Or.inl (List.mem_of_getElem? (i := 1) rfl)) all0)
  have c106 : Exa Z T104.heap A0 "java/util/ArrayDeque" := (pm0.keep K104)
  have c107 : Fld Z T104.heap A0 "java/util/ArrayDeque" "tail" "I" (.int (Int32.ofNat ((HD + CN) % 17))) := (pm3.keep K104 (ninS nDE nin0))
  obtain ⟨T108, h108, X108, e108, W108, st108⟩ := putF X104 hx hZ hown (host := "") (Or.inl (hw _ (List.mem_of_getElem? (i := 60) rfl))) Via.refl rfl c107 c106 (Or.inl (hw _ (List.mem_of_getElem? (i := 61) rfl))) (hw _ (List.mem_of_getElem? (i := 10) rfl)) (ty := .int) (by decide) rfl rfl (g := (mkF m 19 #[.val (.ref A0)] [(.int (0 : Int32)), (.ref A0), (.int (0 : Int32)), (.ref A0)])) rfl rfl (hb hby d23_19)
  have Z109 : n0 ≤ h108.size := Nat.le_trans Z105 (Nat.le_of_eq W108.size.symm)
  have K_109 : Keep h0 h108 [A0, E0] := K_105.wr W108 (Or.inl (List.mem_of_getElem? (i := 0) rfl))
  have Fw108 : Fld Z h108 A0 "java/util/ArrayDeque" "tail" "I" (.int (0 : Int32)) := c107.same W108
  have N108 := Fr.snoc X108 N104 g_A0
  have c110 : Exa Z h108 A0 "java/util/ArrayDeque" := (c106.wr W108)
  have c111 : Fld Z h108 A0 "java/util/ArrayDeque" "head" "I" (.int (Int32.ofNat HD)) := ((pm2.keep K104 (ninS nDE nin0)).other W108 (Or.inr (slot_ne (Or.inl (hw _ (List.mem_of_getElem? (i := 64) rfl))) (Or.inl (hw _ (List.mem_of_getElem? (i := 61) rfl))) (by decide) (t := .int) (t' := .int) (by decide) (by decide))))
  obtain ⟨T112, h112, X112, e112, W112, st112⟩ := putF X108 hx hZ hown (host := "") (Or.inl (hw _ (List.mem_of_getElem? (i := 63) rfl))) Via.refl e108 c111 c110 (Or.inl (hw _ (List.mem_of_getElem? (i := 64) rfl))) (hw _ (List.mem_of_getElem? (i := 10) rfl)) (ty := .int) (by decide) rfl rfl (g := (mkF m 22 #[.val (.ref A0)] [(.int (0 : Int32)), (.ref A0)])) rfl rfl (hb hby d23_22)
  have Z113 : n0 ≤ h112.size := Nat.le_trans Z109 (Nat.le_of_eq W112.size.symm)
  have K_113 : Keep h0 h112 [A0, E0] := K_109.wr W112 (Or.inl (List.mem_of_getElem? (i := 0) rfl))
  have Fw112 : Fld Z h112 A0 "java/util/ArrayDeque" "head" "I" (.int (0 : Int32)) := c111.same W112
  have N112 := Fr.snoc X112 N108 g_A0
  have pre114 : ∀ t, Steps p.tables e below (T112.setTop (mkF m 25 #[.val (.ref A0)] [])) t → Steps p.tables e below (s₁.setTop (entryFrame m #[(.ref A0)] 1)) t := fun t kt => pre0 t (by
      show Steps p.tables e below (s₁.setTop (mkF m 0 #[.val (.ref A0)] [])) _
      refine XS.aloadN X0.here hx rfl (hb hby d23_0) rfl rfl ?_
      show Steps p.tables e below (s₁.setTop (mkF m 1 #[.val (.ref A0)] [(.ref A0)])) _
      refine st101 _ ?_
      show Steps p.tables e below (T101.setTop (mkF m 4 #[.val (.ref A0)] [(.ref E0)])) _
      refine XS.aloadN X101.here hx rfl (hb hby d23_4) rfl rfl ?_
      show Steps p.tables e below (T101.setTop (mkF m 5 #[.val (.ref A0)] [(.ref A0), (.ref E0)])) _
      refine st102 _ ?_
      show Steps p.tables e below (T102.setTop (mkF m 8 #[.val (.ref A0)] [(.int (Int32.ofNat HD)), (.ref E0)])) _
      refine XS.aloadN X102.here hx rfl (hb hby d23_8) rfl rfl ?_
      show Steps p.tables e below (T102.setTop (mkF m 9 #[.val (.ref A0)] [(.ref A0), (.int (Int32.ofNat HD)), (.ref E0)])) _
      refine st103 _ ?_
      show Steps p.tables e below (T103.setTop (mkF m 12 #[.val (.ref A0)] [(.int (Int32.ofNat ((HD + CN) % 17))), (.int (Int32.ofNat HD)), (.ref E0)])) _
      refine st104 _ ?_
      show Steps p.tables e below (T104.setTop (mkF m 15 #[.val (.ref A0)] [])) _
      refine XS.aloadN X104.here hx rfl (hb hby d23_15) rfl rfl ?_
      show Steps p.tables e below (T104.setTop (mkF m 16 #[.val (.ref A0)] [(.ref A0)])) _
      refine XS.aloadN X104.here hx rfl (hb hby d23_16) rfl rfl ?_
      show Steps p.tables e below (T104.setTop (mkF m 17 #[.val (.ref A0)] [(.ref A0), (.ref A0)])) _
      refine XS.iconst X104.here hx rfl (hb hby d23_17) ?_
      show Steps p.tables e below (T104.setTop (mkF m 18 #[.val (.ref A0)] [(.int (0 : Int32)), (.ref A0), (.ref A0)])) _
      refine XS.dupX1 X104.here hx rfl (hb hby d23_18) rfl rfl rfl ?_
      show Steps p.tables e below (T104.setTop (mkF m 19 #[.val (.ref A0)] [(.int (0 : Int32)), (.ref A0), (.int (0 : Int32)), (.ref A0)])) _
      refine st108 _ ?_
      show Steps p.tables e below (T108.setTop (mkF m 22 #[.val (.ref A0)] [(.int (0 : Int32)), (.ref A0)])) _
      refine st112 _ ?_
      exact kt)
  have c115 : Fld Z h112 A0 "java/util/ArrayDeque" "tail" "I" (.int (0 : Int32)) := (Fw108.other W112 (Or.inr (slot_ne (Or.inl (hw _ (List.mem_of_getElem? (i := 61) rfl))) (Or.inl (hw _ (List.mem_of_getElem? (i := 64) rfl))) (by decide) (t := .int) (t' := .int) (by decide) (by decide))))
  have c116 : Exa Z h112 A0 "java/util/ArrayDeque" := (c110.wr W112)
  have c117 : Fld Z h112 A0 "java/util/ArrayDeque" "elements" "[Ljava/lang/Object;" (.ref E0) := (((pm1.keep K104 (ninS nDE nin0)).other W108 (Or.inr (slot_ne (Or.inl (hw _ (List.mem_of_getElem? (i := 25) rfl))) (Or.inl (hw _ (List.mem_of_getElem? (i := 61) rfl))) (by decide) (t := (.array (.object "java/lang/Object"))) (t' := .int) (by decide) (by decide)))).other W112 (Or.inr (slot_ne (Or.inl (hw _ (List.mem_of_getElem? (i := 25) rfl))) (Or.inl (hw _ (List.mem_of_getElem? (i := 64) rfl))) (by decide) (t := (.array (.object "java/lang/Object"))) (t' := .int) (by decide) (by decide))))
  have c118 : own_El Z h112 E0 x104_FG := ((p104_0.other W108 (Ne.symm nDE)).other W112 (Ne.symm nDE))
  obtain ⟨fs, hr, hrun, hended, hW, hsame⟩ := X112.leave (v := none) (fun _ => rfl)
  refine ⟨_, _, pre114 _ ?_, hrun, hended, _, _, rfl, ?_, ⟨_, rfl⟩, hW, hsame.mono (by decide) (by decide)⟩
  · show Steps p.tables e below (T112.setTop (mkF m 25 #[.val (.ref A0)] [])) _
    exact X112.returnOut hx Bd.returns (hb hby d23_25) hr
  · show Q23 Z A0 E0 FF HD CN h0 n0 _ T112.heap _
    rw [e112]
    exact ⟨x104_FG, rfl, N112, K_113, c116, c117, Fw112, c115, c118, (own_Dq.zero p104_1)⟩
theorem d4_0 : decode jdk_22_method_1_code 0 = .ok (.aload_n 0, 1) := by decide +kernel
theorem d4_1 : decode jdk_22_method_1_code 1 = .ok (.invokespecial 1, 3) := by decide +kernel
theorem d4_4 : decode jdk_22_method_1_code 4 = .ok (.return_, 1) := by decide +kernel
theorem pn_4 : plainName "java/util/AbstractCollection" = true := by first | (simp [plainName, overriddenIn]; done) | decide +kernel
theorem ef_4 (m : MethodId) (A0 : Addr) : entryFrame m #[(.ref A0)] 1 = mkF m 0 #[.val (.ref A0)] [] := by first | (simp [entryFrame, mkF, argsToLocals, Value.category]; done) | rfl
def Q4 (Z : State) (A0 : Addr) (h0 : Heap) (n0 : Nat) (v : Option Value) (h : Heap) (L : List Loc) : Prop := (v = none) ∧ (Fr n0 L) ∧ (h = h0)
set_option maxRecDepth 65536 in
set_option maxHeartbeats 40000000 in
theorem rm4 (l : Launch) (Z : State) (a0 : Array Value) (hw : ∀ d ∈ tables_1, d.before a0 Z = true) (ws : List Jvm.Cond) (A0 : Addr) (h0 : Heap) (n0 : Nat) (Z0 : n0 ≤ h0.size) :
    MetFree l (⟨"java/util/AbstractCollection", "<init>", "()V"⟩ : MethodName) (head1 (Jvm.Cond.code (⟨"java/util/AbstractCollection", "<init>", "()V"⟩ : MethodName) jdk_22_method_1_code 1 none :: ws) ({ frames := 1, cells := 0, slots := 0, locals := 12 } : Room)) (fun a U => a = #[(.ref A0)] ∧ Z.Warmed39 U.vm ∧ U.heap = h0) (fun _ _ _ _ _ => True) (fun _ U o U' => ∃ v L, o = .returned v ∧ Q4 Z A0 h0 n0 v U'.heap L ∧ FrameEnd U o U' L ({ frames := 1, cells := 0, slots := 0, locals := 12 } : Room).cells ({ frames := 1, cells := 0, slots := 0, locals := 12 } : Room).slots) := by
  refine MetFree.of_bodySF (plainFor_of_name pn_4) hisR ?_
  intro p e s m args below meth c s₁ Bd hml0 hP hK
  obtain ⟨rfl, hZ, hh⟩ := hP
  have hx := Bd.exec
  have hby := Bd.bytes
  have hml : c.maxLocals = 1 := hml0
  have hown : s.vm.findClass "java/util/AbstractCollection" = some m.cls := findClass_of_methodNamed Bd.named
  have hnm := (name_of_methodNamed Bd.named Bd.method).1
  have X0 : Stand p l e ({ frames := 1, cells := 0, slots := 0, locals := 12 } : Room) s m #[(.ref A0)] below meth c s₁ [] 0 0 := Stand.of_body Bd
  have e0 : s₁.heap = h0 := by rw [← hh, Bd.state]; rfl
  have N0 := Fr.nil n0
  have pre0 : ∀ t, Steps p.tables e below (s₁.setTop (mkF m 0 #[.val (.ref A0)] [])) t → Steps p.tables e below (s₁.setTop (entryFrame m #[(.ref A0)] 1)) t := fun t k => castTop (ef_4 m A0) k
  obtain ⟨T101, X101, e101, st101⟩ := initO X0 hx hZ hown (hw _ (List.mem_of_getElem? (i := 21) rfl)) (hw _ (List.mem_of_getElem? (i := 7) rfl)) (hw _ (List.mem_of_getElem? (i := 8) rfl)) e0 (g := (mkF m 1 #[.val (.ref A0)] [(.ref A0)])) rfl (by rw [hml]; rfl) rfl (hb hby d4_1) (by decide) (W := 0) (by show 2 * 0 + _ ≤ _; exact Nat.le_of_eq rfl) (by decide)
  have pre102 : ∀ t, Steps p.tables e below (T101.setTop (mkF m 4 #[.val (.ref A0)] [])) t → Steps p.tables e below (s₁.setTop (entryFrame m #[(.ref A0)] 1)) t := fun t kt => pre0 t (by
      show Steps p.tables e below (s₁.setTop (mkF m 0 #[.val (.ref A0)] [])) _
      refine XS.aloadN X0.here hx rfl (hb hby d4_0) rfl rfl ?_
      show Steps p.tables e below (s₁.setTop (mkF m 1 #[.val (.ref A0)] [(.ref A0)])) _
      refine st101 _ ?_
      exact kt)
  obtain ⟨fs, hr, hrun, hended, hW, hsame⟩ := X101.leave (v := none) (fun _ => rfl)
  refine ⟨_, _, pre102 _ ?_, hrun, hended, _, _, rfl, ?_, ⟨_, rfl⟩, hW, hsame.mono (by decide) (by decide)⟩
  · show Steps p.tables e below (T101.setTop (mkF m 4 #[.val (.ref A0)] [])) _
    exact X101.returnOut hx Bd.returns (hb hby d4_4) hr
  · show Q4 Z A0 h0 n0 _ T101.heap _
    rw [e101]
    exact ⟨rfl, N0, rfl⟩
theorem d18_0 : decode jdk_39_method_1_code 0 = .ok (.aload_n 0, 1) := by decide +kernel
theorem d18_1 : decode jdk_39_method_1_code 1 = .ok (.invokespecial 1, 3) := by decide +kernel
theorem d18_4 : decode jdk_39_method_1_code 4 = .ok (.aload_n 0, 1) := by decide +kernel
theorem d18_5 : decode jdk_39_method_1_code 5 = .ok (.iconst 0, 1) := by decide +kernel
theorem d18_6 : decode jdk_39_method_1_code 6 = .ok (.putfield 7, 3) := by decide +kernel
theorem d18_9 : decode jdk_39_method_1_code 9 = .ok (.return_, 1) := by decide +kernel
theorem pn_18 : plainName "java/util/AbstractList" = true := by first | (simp [plainName, overriddenIn]; done) | decide +kernel
theorem pd_18_0 : parseMethodDescriptor "()V" = some ⟨[], none⟩ := by decide +kernel
theorem ef_18 (m : MethodId) (A0 : Addr) : entryFrame m #[(.ref A0)] 1 = mkF m 0 #[.val (.ref A0)] [] := by first | (simp [entryFrame, mkF, argsToLocals, Value.category]; done) | rfl
def Q18 (Z : State) (A0 : Addr) (W0 : Int32) (h0 : Heap) (n0 : Nat) (v : Option Value) (h : Heap) (L : List Loc) : Prop := (v = none) ∧ (Fr n0 L) ∧ (Keep h0 h [A0]) ∧ (Exa Z h A0 "java/util/ArrayList") ∧ (Fld Z h A0 "java/util/AbstractList" "modCount" "I" (.int (0 : Int32))) ∧ (Fld Z h A0 "java/util/ArrayList" "size" "I" (.int (0 : Int32))) ∧ (Fld Z h A0 "java/util/ArrayList" "elementData" "[Ljava/lang/Object;" .null)
set_option maxRecDepth 65536 in
set_option maxHeartbeats 40000000 in
theorem rm18 (l : Launch) (Z : State) (a0 : Array Value) (hw : ∀ d ∈ tables_1, d.before a0 Z = true) (ws : List Jvm.Cond) (A0 : Addr) (W0 : Int32) (h0 : Heap) (n0 : Nat) (Z0 : n0 ≤ h0.size) (pm0 : Exa Z h0 A0 "java/util/ArrayList") (pm1 : Fld Z h0 A0 "java/util/AbstractList" "modCount" "I" (.int W0)) (pm2 : Fld Z h0 A0 "java/util/ArrayList" "size" "I" (.int (0 : Int32))) (pm3 : Fld Z h0 A0 "java/util/ArrayList" "elementData" "[Ljava/lang/Object;" .null) (g_A0 : n0 ≤ A0) :
    MetFree l (⟨"java/util/AbstractList", "<init>", "()V"⟩ : MethodName) (head1 (Jvm.Cond.code (⟨"java/util/AbstractList", "<init>", "()V"⟩ : MethodName) jdk_39_method_1_code 1 none :: ws) ({ frames := 2, cells := 0, slots := 0, locals := 24 } : Room)) (fun a U => a = #[(.ref A0)] ∧ Z.Warmed39 U.vm ∧ U.heap = h0) (fun _ _ _ _ _ => True) (fun _ U o U' => ∃ v L, o = .returned v ∧ Q18 Z A0 W0 h0 n0 v U'.heap L ∧ FrameEnd U o U' L ({ frames := 2, cells := 0, slots := 0, locals := 24 } : Room).cells ({ frames := 2, cells := 0, slots := 0, locals := 24 } : Room).slots) := by
  refine MetFree.of_bodySF (plainFor_of_name pn_18) hisR ?_
  intro p e s m args below meth c s₁ Bd hml0 hP hK
  obtain ⟨rfl, hZ, hh⟩ := hP
  have hx := Bd.exec
  have hby := Bd.bytes
  have hml : c.maxLocals = 1 := hml0
  have hown : s.vm.findClass "java/util/AbstractList" = some m.cls := findClass_of_methodNamed Bd.named
  have hnm := (name_of_methodNamed Bd.named Bd.method).1
  have X0 : Stand p l e ({ frames := 2, cells := 0, slots := 0, locals := 24 } : Room) s m #[(.ref A0)] below meth c s₁ [] 0 0 := Stand.of_body Bd
  have e0 : s₁.heap = h0 := by rw [← hh, Bd.state]; rfl
  have N0 := Fr.nil n0
  have pre0 : ∀ t, Steps p.tables e below (s₁.setTop (mkF m 0 #[.val (.ref A0)] [])) t → Steps p.tables e below (s₁.setTop (entryFrame m #[(.ref A0)] 1)) t := fun t k => castTop (ef_18 m A0) k
  have K_0 : Keep h0 h0 [A0] := Keep.refl h0 _
  obtain ⟨_, _, ⟨T101, L101, k101, n101⟩, -, X101, ⟨Lc101, hQ101, l101, y101, z101⟩, st101⟩ := X0.specialBack hx (y := (⟨"java/util/AbstractCollection", "<init>", "()V"⟩ : MethodName)) rfl hown (mvT hZ (hw _ (List.mem_of_getElem? (i := 112) rfl))) (mvT hZ (hw _ (List.mem_of_getElem? (i := 16) rfl))) (mvT hZ (hw _ (List.mem_of_getElem? (i := 20) rfl))) (by decide) (backOf (W := 0) (rm4 l Z a0 hw [] A0 h0 n0 Z0 ) hZ (hw _ (List.mem_of_getElem? (i := 20) rfl)) (hw _ (List.mem_of_getElem? (i := 19) rfl)) (by decide) (by decide)) (g := (mkF m 1 #[.val (.ref A0)] [(.ref A0)])) rfl (by rw [hml]; rfl) (Steps.refl _) (a := A0) (argsL := []) (rest := []) (lenOf pd_18_0 rfl) rfl (by show 2 * 0 + _ ≤ _; exact Nat.le_of_eq rfl) (hb hby d18_1) (fun _ _ => ⟨rfl, e0, (by decide : 0 + 0 ≤ _), (by decide : 0 + 0 ≤ _)⟩)
  dsimp only [Pt.U, Pt.locs, Pt.cells, Pt.slots] at X101 l101 y101 z101 st101 hQ101
  subst l101 y101 z101
  obtain ⟨rfl, N101q, K101⟩ := hQ101
  have N101 := Fr.app N0 N101q
  obtain ⟨T102, h102, X102, e102, W102, st102⟩ := putF X101 hx hZ hown (host := "") (Or.inl (hw _ (List.mem_of_getElem? (i := 114) rfl))) Via.refl K101 pm1 pm0 (Or.inl (hw _ (List.mem_of_getElem? (i := 115) rfl))) (hw _ (List.mem_of_getElem? (i := 101) rfl)) (ty := .int) (by decide) rfl rfl (g := (mkF m 6 #[.val (.ref A0)] [(.int (0 : Int32)), (.ref A0)])) rfl rfl (hb hby d18_6)
  have Z103 : n0 ≤ h102.size := Nat.le_trans Z0 (Nat.le_of_eq W102.size.symm)
  have K_103 : Keep h0 h102 [A0] := K_0.wr W102 (Or.inl (List.mem_of_getElem? (i := 0) rfl))
  have Fw102 : Fld Z h102 A0 "java/util/AbstractList" "modCount" "I" (.int (0 : Int32)) := pm1.same W102
  have N102 := Fr.snoc X102 N101 g_A0
  have pre104 : ∀ t, Steps p.tables e below (T102.setTop (mkF m 9 #[.val (.ref A0)] [])) t → Steps p.tables e below (s₁.setTop (entryFrame m #[(.ref A0)] 1)) t := fun t kt => pre0 t (by
      show Steps p.tables e below (s₁.setTop (mkF m 0 #[.val (.ref A0)] [])) _
      refine XS.aloadN X0.here hx rfl (hb hby d18_0) rfl rfl ?_
      show Steps p.tables e below (s₁.setTop (mkF m 1 #[.val (.ref A0)] [(.ref A0)])) _
      refine st101.trans ?_
      show Steps p.tables e below (T101.setTop (mkF m 4 #[.val (.ref A0)] [])) _
      refine XS.aloadN X101.here hx rfl (hb hby d18_4) rfl rfl ?_
      show Steps p.tables e below (T101.setTop (mkF m 5 #[.val (.ref A0)] [(.ref A0)])) _
      refine XS.iconst X101.here hx rfl (hb hby d18_5) ?_
      show Steps p.tables e below (T101.setTop (mkF m 6 #[.val (.ref A0)] [(.int (0 : Int32)), (.ref A0)])) _
      refine st102 _ ?_
      exact kt)
  have c105 : Exa Z h102 A0 "java/util/ArrayList" := (pm0.wr W102)
  have c106 : Fld Z h102 A0 "java/util/ArrayList" "size" "I" (.int (0 : Int32)) := (pm2.other W102 (Or.inr (slot_ne (Or.inl (hw _ (List.mem_of_getElem? (i := 147) rfl))) (Or.inl (hw _ (List.mem_of_getElem? (i := 115) rfl))) (by decide) (t := .int) (t' := .int) (by decide) (by decide))))
  have c107 : Fld Z h102 A0 "java/util/ArrayList" "elementData" "[Ljava/lang/Object;" .null := (pm3.other W102 (Or.inr (slot_ne (Or.inl (hw _ (List.mem_of_getElem? (i := 150) rfl))) (Or.inl (hw _ (List.mem_of_getElem? (i := 115) rfl))) (by decide) (t := (.array (.object "java/lang/Object"))) (t' := .int) (by decide) (by decide))))
  obtain ⟨fs, hr, hrun, hended, hW, hsame⟩ := X102.leave (v := none) (fun _ => rfl)
  refine ⟨_, _, pre104 _ ?_, hrun, hended, _, _, rfl, ?_, ⟨_, rfl⟩, hW, hsame.mono (by decide) (by decide)⟩
  · show Steps p.tables e below (T102.setTop (mkF m 9 #[.val (.ref A0)] [])) _
    exact X102.returnOut hx Bd.returns (hb hby d18_9) hr
  · show Q18 Z A0 W0 h0 n0 _ T102.heap _
    rw [e102]
    exact ⟨rfl, N102, K_103, c105, Fw102, c106, c107⟩
theorem d3_0 : decode jdk_21_method_3_code 0 = .ok (.aload_n 0, 1) := by decide +kernel
theorem d3_1 : decode jdk_21_method_3_code 1 = .ok (.invokespecial 42, 3) := by decide +kernel
theorem d3_4 : decode jdk_21_method_3_code 4 = .ok (.aload_n 0, 1) := by decide +kernel
theorem d3_5 : decode jdk_21_method_3_code 5 = .ok (.bipush 17, 2) := by decide +kernel
theorem d3_7 : decode jdk_21_method_3_code 7 = .ok (.anewarray 47, 3) := by decide +kernel
theorem d3_10 : decode jdk_21_method_3_code 10 = .ok (.putfield 3, 3) := by decide +kernel
theorem d3_13 : decode jdk_21_method_3_code 13 = .ok (.return_, 1) := by decide +kernel
theorem pn_3 : plainName "java/util/ArrayDeque" = true := by first | (simp [plainName, overriddenIn]; done) | decide +kernel
theorem pd_3_0 : parseMethodDescriptor "()V" = some ⟨[], none⟩ := by decide +kernel
theorem ef_3 (m : MethodId) (A0 : Addr) : entryFrame m #[(.ref A0)] 1 = mkF m 0 #[.val (.ref A0)] [] := by first | (simp [entryFrame, mkF, argsToLocals, Value.category]; done) | rfl
def Q3 (Z : State) (A0 : Addr) (h0 : Heap) (n0 : Nat) (v : Option Value) (h : Heap) (L : List Loc) : Prop := ∃ E0 : Addr, (v = none) ∧ (Fr n0 L) ∧ (Keep h0 h [A0]) ∧ (h0.size ≤ E0) ∧ (Exa Z h A0 "java/util/ArrayDeque") ∧ (Fld Z h A0 "java/util/ArrayDeque" "elements" "[Ljava/lang/Object;" (.ref E0)) ∧ (Fld Z h A0 "java/util/ArrayDeque" "head" "I" (.int (Int32.ofNat 0))) ∧ (Fld Z h A0 "java/util/ArrayDeque" "tail" "I" (.int (Int32.ofNat ((0 + 0) % 17)))) ∧ (own_El Z h E0 (fun _ => Value.null)) ∧ (own_Dq (fun _ => Value.null) 0 0)
set_option maxRecDepth 65536 in
set_option maxHeartbeats 40000000 in
theorem rm3 (l : Launch) (Z : State) (a0 : Array Value) (hw : ∀ d ∈ tables_1, d.before a0 Z = true) (ws : List Jvm.Cond) (A0 : Addr) (h0 : Heap) (n0 : Nat) (Z0 : n0 ≤ h0.size) (pm0 : Exa Z h0 A0 "java/util/ArrayDeque") (pm1 : Fld Z h0 A0 "java/util/ArrayDeque" "elements" "[Ljava/lang/Object;" .null) (pm2 : Fld Z h0 A0 "java/util/ArrayDeque" "head" "I" (.int (0 : Int32))) (pm3 : Fld Z h0 A0 "java/util/ArrayDeque" "tail" "I" (.int (0 : Int32))) (g_A0 : n0 ≤ A0) :
    MetFree l (⟨"java/util/ArrayDeque", "<init>", "()V"⟩ : MethodName) (head1 (Jvm.Cond.code (⟨"java/util/ArrayDeque", "<init>", "()V"⟩ : MethodName) jdk_21_method_3_code 1 none :: ws) ({ frames := 2, cells := 1, slots := 17, locals := 24 } : Room)) (fun a U => a = #[(.ref A0)] ∧ Z.Warmed39 U.vm ∧ U.heap = h0) (fun _ _ _ _ _ => True) (fun _ U o U' => ∃ v L, o = .returned v ∧ Q3 Z A0 h0 n0 v U'.heap L ∧ FrameEnd U o U' L ({ frames := 2, cells := 1, slots := 17, locals := 24 } : Room).cells ({ frames := 2, cells := 1, slots := 17, locals := 24 } : Room).slots) := by
  refine MetFree.of_bodySF (plainFor_of_name pn_3) hisR ?_
  intro p e s m args below meth c s₁ Bd hml0 hP hK
  obtain ⟨rfl, hZ, hh⟩ := hP
  have hx := Bd.exec
  have hby := Bd.bytes
  have hml : c.maxLocals = 1 := hml0
  have hown : s.vm.findClass "java/util/ArrayDeque" = some m.cls := findClass_of_methodNamed Bd.named
  have hnm := (name_of_methodNamed Bd.named Bd.method).1
  have X0 : Stand p l e ({ frames := 2, cells := 1, slots := 17, locals := 24 } : Room) s m #[(.ref A0)] below meth c s₁ [] 0 0 := Stand.of_body Bd
  have e0 : s₁.heap = h0 := by rw [← hh, Bd.state]; rfl
  have N0 := Fr.nil n0
  have pre0 : ∀ t, Steps p.tables e below (s₁.setTop (mkF m 0 #[.val (.ref A0)] [])) t → Steps p.tables e below (s₁.setTop (entryFrame m #[(.ref A0)] 1)) t := fun t k => castTop (ef_3 m A0) k
  have K_0 : Keep h0 h0 [A0] := Keep.refl h0 _
  obtain ⟨_, _, ⟨T101, L101, k101, n101⟩, -, X101, ⟨Lc101, hQ101, l101, y101, z101⟩, st101⟩ := X0.specialBack hx (y := (⟨"java/util/AbstractCollection", "<init>", "()V"⟩ : MethodName)) rfl hown (mvT hZ (hw _ (List.mem_of_getElem? (i := 15) rfl))) (mvT hZ (hw _ (List.mem_of_getElem? (i := 16) rfl))) (mvT hZ (hw _ (List.mem_of_getElem? (i := 20) rfl))) (by decide) (backOf (W := 0) (rm4 l Z a0 hw [] A0 h0 n0 Z0 ) hZ (hw _ (List.mem_of_getElem? (i := 20) rfl)) (hw _ (List.mem_of_getElem? (i := 19) rfl)) (by decide) (by decide)) (g := (mkF m 1 #[.val (.ref A0)] [(.ref A0)])) rfl (by rw [hml]; rfl) (Steps.refl _) (a := A0) (argsL := []) (rest := []) (lenOf pd_3_0 rfl) rfl (by show 2 * 0 + _ ≤ _; exact Nat.le_of_eq rfl) (hb hby d3_1) (fun _ _ => ⟨rfl, e0, (by decide : 0 + 0 ≤ _), (by decide : 0 + 0 ≤ _)⟩)
  dsimp only [Pt.U, Pt.locs, Pt.cells, Pt.slots] at X101 l101 y101 z101 st101 hQ101
  subst l101 y101 z101
  obtain ⟨rfl, N101q, K101⟩ := hQ101
  have N101 := Fr.app N0 N101q
  obtain ⟨T102, h102, k102, X102, e102, E102, A102, EX102, O102, st102⟩ := newRE X101 hx hZ hown (hw _ (List.mem_of_getElem? (i := 22) rfl)) (hw _ (List.mem_of_getElem? (i := 23) rfl)) K101 (g := (mkF m 7 #[.val (.ref A0)] [(.int (17 : Int32)), (.ref A0)])) rfl (hb hby d3_7) rfl (by decide) (cap := 17) (by decide) (by decide) (by decide) (by decide) (ad := "[Ljava/lang/Object;") (by decide)
  obtain ⟨b102, q102⟩ : ∃ z, z = h0.size := ⟨_, rfl⟩
  rw [← q102] at A102 EX102 st102
  have ne103 : A0 ≠ b102 := Nat.ne_of_lt (Nat.lt_of_lt_of_le pm0.lt (Nat.le_of_eq q102.symm))
  have g_b102 : n0 ≤ b102 := Nat.le_trans Z0 (Nat.le_of_eq q102.symm)
  have sz_b102 : h0.size ≤ b102 := Nat.le_trans K_0.1 (Nat.le_of_eq q102.symm)
  have Z104 : n0 ≤ h102.size := Nat.le_trans Z0 E102.1
  have K_104 : Keep h0 h102 [A0] := K_0.ext E102
  have V102 : own_El Z h102 b102 (fun _ => Value.null) := own_El.new A102 O102
  have c105 : Exa Z h102 A0 "java/util/ArrayDeque" := (pm0.ext E102)
  have c106 : Fld Z h102 A0 "java/util/ArrayDeque" "elements" "[Ljava/lang/Object;" .null := (pm1.ext E102)
  obtain ⟨T107, h107, X107, e107, W107, st107⟩ := putF X102 hx hZ hown (host := "") (Or.inl (hw _ (List.mem_of_getElem? (i := 24) rfl))) Via.refl e102 c106 c105 (Or.inl (hw _ (List.mem_of_getElem? (i := 25) rfl))) (hw _ (List.mem_of_getElem? (i := 10) rfl)) (ty := (.array (.object "java/lang/Object"))) (by decide) rfl rfl (g := (mkF m 10 #[.val (.ref A0)] [(.ref b102), (.ref A0)])) rfl rfl (hb hby d3_10)
  have Z108 : n0 ≤ h107.size := Nat.le_trans Z104 (Nat.le_of_eq W107.size.symm)
  have K_108 : Keep h0 h107 [A0] := K_104.wr W107 (Or.inl (List.mem_of_getElem? (i := 0) rfl))
  have Fw107 : Fld Z h107 A0 "java/util/ArrayDeque" "elements" "[Ljava/lang/Object;" (.ref b102) := c106.same W107
  have N107 := Fr.snoc X107 N101 g_A0
  have pre109 : ∀ t, Steps p.tables e below (T107.setTop (mkF m 13 #[.val (.ref A0)] [])) t → Steps p.tables e below (s₁.setTop (entryFrame m #[(.ref A0)] 1)) t := fun t kt => pre0 t (by
      show Steps p.tables e below (s₁.setTop (mkF m 0 #[.val (.ref A0)] [])) _
      refine XS.aloadN X0.here hx rfl (hb hby d3_0) rfl rfl ?_
      show Steps p.tables e below (s₁.setTop (mkF m 1 #[.val (.ref A0)] [(.ref A0)])) _
      refine st101.trans ?_
      show Steps p.tables e below (T101.setTop (mkF m 4 #[.val (.ref A0)] [])) _
      refine XS.aloadN X101.here hx rfl (hb hby d3_4) rfl rfl ?_
      show Steps p.tables e below (T101.setTop (mkF m 5 #[.val (.ref A0)] [(.ref A0)])) _
      refine XS.bipush X101.here hx rfl (hb hby d3_5) ?_
      show Steps p.tables e below (T101.setTop (mkF m 7 #[.val (.ref A0)] [(.int (17 : Int32)), (.ref A0)])) _
      refine st102 _ ?_
      show Steps p.tables e below (T102.setTop (mkF m 10 #[.val (.ref A0)] [(.ref b102), (.ref A0)])) _
      refine st107 _ ?_
      exact kt)
  have c110 : Fld Z h107 A0 "java/util/ArrayDeque" "tail" "I" (.int (0 : Int32)) := ((pm3.ext E102).other W107 (Or.inr (slot_ne (Or.inl (hw _ (List.mem_of_getElem? (i := 61) rfl))) (Or.inl (hw _ (List.mem_of_getElem? (i := 25) rfl))) (by decide) (t := .int) (t' := (.array (.object "java/lang/Object"))) (by decide) (by decide))))
  have c111 : Exa Z h107 A0 "java/util/ArrayDeque" := (c105.wr W107)
  have c112 : Fld Z h107 A0 "java/util/ArrayDeque" "head" "I" (.int (0 : Int32)) := ((pm2.ext E102).other W107 (Or.inr (slot_ne (Or.inl (hw _ (List.mem_of_getElem? (i := 64) rfl))) (Or.inl (hw _ (List.mem_of_getElem? (i := 25) rfl))) (by decide) (t := .int) (t' := (.array (.object "java/lang/Object"))) (by decide) (by decide))))
  have c113 : own_El Z h107 b102 (fun _ => Value.null) := (V102.other W107 (Ne.symm ne103))
  obtain ⟨fs, hr, hrun, hended, hW, hsame⟩ := X107.leave (v := none) (fun _ => rfl)
  refine ⟨_, _, pre109 _ ?_, hrun, hended, _, _, rfl, ?_, ⟨_, rfl⟩, hW, hsame.mono (by decide) (by decide)⟩
  · show Steps p.tables e below (T107.setTop (mkF m 13 #[.val (.ref A0)] [])) _
    exact X107.returnOut hx Bd.returns (hb hby d3_13) hr
  · show Q3 Z A0 h0 n0 _ T107.heap _
    rw [e107]
    exact ⟨b102, rfl, N107, K_108, sz_b102, c111, Fw107, c112, c110, c113, (own_Dq.zero fun _ _ => rfl)⟩
theorem d1_0 : decode prog_14_method_1_code 0 = .ok (.aload_n 0, 1) := by decide +kernel
theorem d1_1 : decode prog_14_method_1_code 1 = .ok (.invokespecial 1, 3) := by decide +kernel
theorem d1_4 : decode prog_14_method_1_code 4 = .ok (.aload_n 0, 1) := by decide +kernel
theorem d1_5 : decode prog_14_method_1_code 5 = .ok (.new 7, 3) := by decide +kernel
theorem d1_8 : decode prog_14_method_1_code 8 = .ok (.dup, 1) := by decide +kernel
theorem d1_9 : decode prog_14_method_1_code 9 = .ok (.invokespecial 9, 3) := by decide +kernel
theorem d1_12 : decode prog_14_method_1_code 12 = .ok (.putfield 10, 3) := by decide +kernel
theorem d1_15 : decode prog_14_method_1_code 15 = .ok (.return_, 1) := by decide +kernel
theorem pn_1 : plainName "com/example/brigid/brigid/core/WaitingLine" = true := by first | (simp [plainName, overriddenIn]; done) | decide +kernel
theorem pd_1_0 : parseMethodDescriptor "()V" = some ⟨[], none⟩ := by decide +kernel
theorem ef_1 (m : MethodId) (A0 : Addr) : entryFrame m #[(.ref A0)] 1 = mkF m 0 #[.val (.ref A0)] [] := by first | (simp [entryFrame, mkF, argsToLocals, Value.category]; done) | rfl
def Q1 (Z : State) (A0 : Addr) (h0 : Heap) (n0 : Nat) (v : Option Value) (h : Heap) (L : List Loc) : Prop := ∃ D0 : Addr, ∃ E0 : Addr, (v = none) ∧ (Fr n0 L) ∧ (Keep h0 h [A0]) ∧ (h0.size ≤ D0) ∧ (h0.size ≤ E0) ∧ (Exa Z h A0 "com/example/brigid/brigid/core/WaitingLine") ∧ (Fld Z h A0 "com/example/brigid/brigid/core/WaitingLine" "line" "Ljava/util/Deque;" (.ref D0)) ∧ (Fld Z h A0 "com/example/brigid/brigid/core/WaitingLine" "size" "I" (.int (Int32.ofNat 0))) ∧ (Exa Z h D0 "java/util/ArrayDeque") ∧ (Fld Z h D0 "java/util/ArrayDeque" "elements" "[Ljava/lang/Object;" (.ref E0)) ∧ (Fld Z h D0 "java/util/ArrayDeque" "head" "I" (.int (Int32.ofNat 0))) ∧ (Fld Z h D0 "java/util/ArrayDeque" "tail" "I" (.int (Int32.ofNat ((0 + 0) % 17)))) ∧ (own_El Z h E0 (fun _ => Value.null)) ∧ (own_Dq (fun _ => Value.null) 0 0) ∧ (D0 ≠ E0)
set_option maxRecDepth 65536 in
set_option maxHeartbeats 40000000 in
theorem rm1 (l : Launch) (Z : State) (a0 : Array Value) (hw : ∀ d ∈ tables_1, d.before a0 Z = true) (ws : List Jvm.Cond) (A0 : Addr) (h0 : Heap) (n0 : Nat) (Z0 : n0 ≤ h0.size) (pm0 : Exa Z h0 A0 "com/example/brigid/brigid/core/WaitingLine") (pm1 : Fld Z h0 A0 "com/example/brigid/brigid/core/WaitingLine" "line" "Ljava/util/Deque;" .null) (pm2 : Fld Z h0 A0 "com/example/brigid/brigid/core/WaitingLine" "size" "I" (.int (0 : Int32))) (g_A0 : n0 ≤ A0) :
    MetFree l (⟨"com/example/brigid/brigid/core/WaitingLine", "<init>", "()V"⟩ : MethodName) (head1 (Jvm.Cond.code (⟨"com/example/brigid/brigid/core/WaitingLine", "<init>", "()V"⟩ : MethodName) prog_14_method_1_code 1 none :: ws) ({ frames := 3, cells := 2, slots := 20, locals := 38 } : Room)) (fun a U => a = #[(.ref A0)] ∧ Z.Warmed39 U.vm ∧ U.heap = h0) (fun _ _ _ _ _ => True) (fun _ U o U' => ∃ v L, o = .returned v ∧ Q1 Z A0 h0 n0 v U'.heap L ∧ FrameEnd U o U' L ({ frames := 3, cells := 2, slots := 20, locals := 38 } : Room).cells ({ frames := 3, cells := 2, slots := 20, locals := 38 } : Room).slots) := by
  refine MetFree.of_bodySF (plainFor_of_name pn_1) hisR ?_
  intro p e s m args below meth c s₁ Bd hml0 hP hK
  obtain ⟨rfl, hZ, hh⟩ := hP
  have hx := Bd.exec
  have hby := Bd.bytes
  have hml : c.maxLocals = 1 := hml0
  have hown : s.vm.findClass "com/example/brigid/brigid/core/WaitingLine" = some m.cls := findClass_of_methodNamed Bd.named
  have hnm := (name_of_methodNamed Bd.named Bd.method).1
  have X0 : Stand p l e ({ frames := 3, cells := 2, slots := 20, locals := 38 } : Room) s m #[(.ref A0)] below meth c s₁ [] 0 0 := Stand.of_body Bd
  have e0 : s₁.heap = h0 := by rw [← hh, Bd.state]; rfl
  have N0 := Fr.nil n0
  have pre0 : ∀ t, Steps p.tables e below (s₁.setTop (mkF m 0 #[.val (.ref A0)] [])) t → Steps p.tables e below (s₁.setTop (entryFrame m #[(.ref A0)] 1)) t := fun t k => castTop (ef_1 m A0) k
  have K_0 : Keep h0 h0 [A0] := Keep.refl h0 _
  obtain ⟨T101, X101, e101, st101⟩ := initO X0 hx hZ hown (hw _ (List.mem_of_getElem? (i := 6) rfl)) (hw _ (List.mem_of_getElem? (i := 7) rfl)) (hw _ (List.mem_of_getElem? (i := 8) rfl)) e0 (g := (mkF m 1 #[.val (.ref A0)] [(.ref A0)])) rfl (by rw [hml]; rfl) rfl (hb hby d1_1) (by decide) (W := 0) (by show 2 * 0 + _ ≤ _; exact Nat.le_of_eq rfl) (by decide)
  obtain ⟨T102, h102, X102, e102, E102, A102, D102, -, st102⟩ := newO X101 hx hZ hown (hw _ (List.mem_of_getElem? (i := 9) rfl)) (hw _ (List.mem_of_getElem? (i := 10) rfl)) (hw _ (List.mem_of_getElem? (i := 11) rfl)) e101 (g := (mkF m 5 #[.val (.ref A0)] [(.ref A0)])) rfl (hb hby d1_5) (by decide) (by decide)
  obtain ⟨b102, q102⟩ : ∃ z, z = h0.size := ⟨_, rfl⟩
  rw [← q102] at A102 D102 st102
  have ne103 : A0 ≠ b102 := Nat.ne_of_lt (Nat.lt_of_lt_of_le pm0.lt (Nat.le_of_eq q102.symm))
  have g_b102 : n0 ≤ b102 := Nat.le_trans Z0 (Nat.le_of_eq q102.symm)
  have sz_b102 : h0.size ≤ b102 := Nat.le_trans K_0.1 (Nat.le_of_eq q102.symm)
  have Z104 : n0 ≤ h102.size := Nat.le_trans Z0 E102.1
  have K_104 : Keep h0 h102 [A0] := K_0.ext E102
  have F102_25 : Fld Z h102 b102 "java/util/ArrayDeque" "elements" "[Ljava/lang/Object;" .null := D102 (Or.inl (hw _ (List.mem_of_getElem? (i := 25) rfl))) (ty := (.array (.object "java/lang/Object"))) (by decide)
  have F102_61 : Fld Z h102 b102 "java/util/ArrayDeque" "tail" "I" (.int (0 : Int32)) := D102 (Or.inl (hw _ (List.mem_of_getElem? (i := 61) rfl))) (ty := .int) (by decide)
  have F102_64 : Fld Z h102 b102 "java/util/ArrayDeque" "head" "I" (.int (0 : Int32)) := D102 (Or.inl (hw _ (List.mem_of_getElem? (i := 64) rfl))) (ty := .int) (by decide)
  obtain ⟨_, _, ⟨T105, L105, k105, n105⟩, -, X105, ⟨Lc105, hQ105, l105, y105, z105⟩, st105⟩ := X102.specialBack hx (y := (⟨"java/util/ArrayDeque", "<init>", "()V"⟩ : MethodName)) rfl hown (mvT hZ (hw _ (List.mem_of_getElem? (i := 12) rfl))) (mvT hZ (hw _ (List.mem_of_getElem? (i := 13) rfl))) (mvT hZ (hw _ (List.mem_of_getElem? (i := 14) rfl))) (by decide) (backOf (W := 2) (rm3 l Z a0 hw [] b102 h102 n0 Z104 A102 F102_25 F102_64 F102_61 g_b102) hZ (hw _ (List.mem_of_getElem? (i := 14) rfl)) (hw _ (List.mem_of_getElem? (i := 11) rfl)) (by decide) (by decide)) (g := (mkF m 9 #[.val (.ref A0)] [(.ref b102), (.ref b102), (.ref A0)])) rfl (by rw [hml]; rfl) (Steps.refl _) (a := b102) (argsL := []) (rest := [(.ref b102), (.ref A0)]) (lenOf pd_1_0 rfl) rfl (by show 2 * 0 + _ ≤ _; exact Nat.le_of_eq rfl) (hb hby d1_9) (fun _ _ => ⟨rfl, e102, (by decide : 1 + 1 ≤ _), (by decide : 3 + 17 ≤ _)⟩)
  dsimp only [Pt.U, Pt.locs, Pt.cells, Pt.slots] at X105 l105 y105 z105 st105 hQ105
  subst l105 y105 z105
  obtain ⟨x105_E0, rfl, N105q, K105, lb105_0, p105_0, p105_1, p105_2, p105_3, p105_4, p105_5⟩ := hQ105
  have N105 := Fr.app N0 N105q
  have c107 : Exa Z h102 A0 "com/example/brigid/brigid/core/WaitingLine" := (pm0.ext E102)
  have ne106 : A0 ≠ x105_E0 := Nat.ne_of_lt (Nat.lt_of_lt_of_le c107.lt lb105_0)
  have ne108 : b102 ≠ x105_E0 := Nat.ne_of_lt (Nat.lt_of_lt_of_le A102.lt lb105_0)
  have g_x105_E0 : n0 ≤ x105_E0 := Nat.le_trans Z104 lb105_0
  have sz_x105_E0 : h0.size ≤ x105_E0 := Nat.le_trans K_104.1 lb105_0
  have Z109 : n0 ≤ T105.heap.size := Nat.le_trans Z104 K105.1
  have K_109 : Keep h0 T105.heap [A0] := K_104.trans K105 (allS (Or.inr sz_b102) all0)
  have c110 : Exa Z T105.heap A0 "com/example/brigid/brigid/core/WaitingLine" := (c107.keep K105)
  have c111 : Fld Z T105.heap A0 "com/example/brigid/brigid/core/WaitingLine" "line" "Ljava/util/Deque;" .null := ((pm1.ext E102).keep K105 (ninS ne103 nin0))
  obtain ⟨T112, h112, X112, e112, W112, st112⟩ := putF X105 hx hZ hown (host := "") (Or.inl (hw _ (List.mem_of_getElem? (i := 26) rfl))) Via.refl rfl c111 c110 (Or.inr ⟨(hw _ (List.mem_of_getElem? (i := 27) rfl)), rfl, hnm⟩) (hw _ (List.mem_of_getElem? (i := 1) rfl)) (ty := (.object "java/util/Deque")) (by decide) rfl rfl (g := (mkF m 12 #[.val (.ref A0)] [(.ref b102), (.ref A0)])) rfl rfl (hb hby d1_12)
  have Z113 : n0 ≤ h112.size := Nat.le_trans Z109 (Nat.le_of_eq W112.size.symm)
  have K_113 : Keep h0 h112 [A0] := K_109.wr W112 (Or.inl (List.mem_of_getElem? (i := 0) rfl))
  have Fw112 : Fld Z h112 A0 "com/example/brigid/brigid/core/WaitingLine" "line" "Ljava/util/Deque;" (.ref b102) := c111.same W112
  have N112 := Fr.snoc X112 N105 g_A0
  have pre114 : ∀ t, Steps p.tables e below (T112.setTop (mkF m 15 #[.val (.ref A0)] [])) t → Steps p.tables e below (s₁.setTop (entryFrame m #[(.ref A0)] 1)) t := fun t kt => pre0 t (by
      show Steps p.tables e below (s₁.setTop (mkF m 0 #[.val (.ref A0)] [])) _
      refine XS.aloadN X0.here hx rfl (hb hby d1_0) rfl rfl ?_
      show Steps p.tables e below (s₁.setTop (mkF m 1 #[.val (.ref A0)] [(.ref A0)])) _
      refine st101 _ ?_
      show Steps p.tables e below (T101.setTop (mkF m 4 #[.val (.ref A0)] [])) _
      refine XS.aloadN X101.here hx rfl (hb hby d1_4) rfl rfl ?_
      show Steps p.tables e below (T101.setTop (mkF m 5 #[.val (.ref A0)] [(.ref A0)])) _
      refine st102 _ ?_
      show Steps p.tables e below (T102.setTop (mkF m 8 #[.val (.ref A0)] [(.ref b102), (.ref A0)])) _
      refine XS.dup X102.here hx rfl (hb hby d1_8) rfl rfl ?_
      show Steps p.tables e below (T102.setTop (mkF m 9 #[.val (.ref A0)] [(.ref b102), (.ref b102), (.ref A0)])) _
      refine st105.trans ?_
      show Steps p.tables e below (T105.setTop (mkF m 12 #[.val (.ref A0)] [(.ref b102), (.ref A0)])) _
      refine st112 _ ?_
      exact kt)
  have c115 : Exa Z h112 A0 "com/example/brigid/brigid/core/WaitingLine" := (c110.wr W112)
  have c116 : Fld Z h112 A0 "com/example/brigid/brigid/core/WaitingLine" "size" "I" (.int (0 : Int32)) := (((pm2.ext E102).keep K105 (ninS ne103 nin0)).other W112 (Or.inr (slot_ne (Or.inl (hw _ (List.mem_of_getElem? (i := 34) rfl))) (Or.inr (hw _ (List.mem_of_getElem? (i := 27) rfl))) (by decide) (t := .int) (t' := (.object "java/util/Deque")) (by decide) (by decide))))
  have c117 : Fld Z h112 b102 "java/util/ArrayDeque" "tail" "I" (.int (Int32.ofNat ((0 + 0) % 17))) := (p105_3.other W112 (Or.inl (Ne.symm ne103)))
  have c118 : Exa Z h112 b102 "java/util/ArrayDeque" := (p105_0.wr W112)
  have c119 : Fld Z h112 b102 "java/util/ArrayDeque" "elements" "[Ljava/lang/Object;" (.ref x105_E0) := (p105_1.other W112 (Or.inl (Ne.symm ne103)))
  have c120 : Fld Z h112 b102 "java/util/ArrayDeque" "head" "I" (.int (Int32.ofNat 0)) := (p105_2.other W112 (Or.inl (Ne.symm ne103)))
  have c121 : own_El Z h112 x105_E0 (fun _ => Value.null) := (p105_4.other W112 (Ne.symm ne106))
  obtain ⟨fs, hr, hrun, hended, hW, hsame⟩ := X112.leave (v := none) (fun _ => rfl)
  refine ⟨_, _, pre114 _ ?_, hrun, hended, _, _, rfl, ?_, ⟨_, rfl⟩, hW, hsame.mono (by decide) (by decide)⟩
  · show Steps p.tables e below (T112.setTop (mkF m 15 #[.val (.ref A0)] [])) _
    exact X112.returnOut hx Bd.returns (hb hby d1_15) hr
  · show Q1 Z A0 h0 n0 _ T112.heap _
    rw [e112]
    exact ⟨b102, x105_E0, rfl, N112, K_113, sz_b102, sz_x105_E0, c115, Fw112, c116, c118, c119, c120, c117, c121, p105_5, ne108⟩
theorem d5_0 : decode prog_14_method_9_code 0 = .ok (.aload_n 0, 1) := by decide +kernel
theorem d5_1 : decode prog_14_method_9_code 1 = .ok (.getfield 26, 3) := by decide +kernel
theorem d5_4 : decode prog_14_method_9_code 4 = .ok (.ifCond .ne 7, 3) := by decide +kernel
theorem d5_7 : decode prog_14_method_9_code 7 = .ok (.iconst 1, 1) := by decide +kernel
theorem d5_8 : decode prog_14_method_9_code 8 = .ok (.goto 4, 3) := by decide +kernel
theorem d5_11 : decode prog_14_method_9_code 11 = .ok (.iconst 0, 1) := by decide +kernel
theorem d5_12 : decode prog_14_method_9_code 12 = .ok (.ireturn, 1) := by decide +kernel
theorem pn_5 : plainName "com/example/brigid/brigid/core/WaitingLine" = true := by first | (simp [plainName, overriddenIn]; done) | decide +kernel
theorem ef_5 (m : MethodId) (A0 : Addr) : entryFrame m #[(.ref A0)] 1 = mkF m 0 #[.val (.ref A0)] [] := by first | (simp [entryFrame, mkF, argsToLocals, Value.category]; done) | rfl
def Q5 (Z : State) (A0 : Addr) (W0 : Int32) (h0 : Heap) (n0 : Nat) (v : Option Value) (h : Heap) (L : List Loc) : Prop := (v = some (.int (own_emp W0))) ∧ (Fr n0 L) ∧ (h = h0)
set_option maxRecDepth 65536 in
set_option maxHeartbeats 40000000 in
theorem rm5 (l : Launch) (Z : State) (a0 : Array Value) (hw : ∀ d ∈ tables_1, d.before a0 Z = true) (ws : List Jvm.Cond) (A0 : Addr) (W0 : Int32) (h0 : Heap) (n0 : Nat) (Z0 : n0 ≤ h0.size) (pm0 : Exa Z h0 A0 "com/example/brigid/brigid/core/WaitingLine") (pm1 : Fld Z h0 A0 "com/example/brigid/brigid/core/WaitingLine" "size" "I" (.int W0)) :
    MetFree l (⟨"com/example/brigid/brigid/core/WaitingLine", "isEmpty", "()Z"⟩ : MethodName) (head1 (Jvm.Cond.code (⟨"com/example/brigid/brigid/core/WaitingLine", "isEmpty", "()Z"⟩ : MethodName) prog_14_method_9_code 1 (some .boolean) :: ws) ({ frames := 0, cells := 0, slots := 0, locals := 0 } : Room)) (fun a U => a = #[(.ref A0)] ∧ Z.Warmed39 U.vm ∧ U.heap = h0) (fun _ _ _ _ _ => True) (fun _ U o U' => ∃ v L, o = .returned v ∧ Q5 Z A0 W0 h0 n0 v U'.heap L ∧ FrameEnd U o U' L ({ frames := 0, cells := 0, slots := 0, locals := 0 } : Room).cells ({ frames := 0, cells := 0, slots := 0, locals := 0 } : Room).slots) := by
  refine MetFree.of_bodySF (plainFor_of_name pn_5) hisR ?_
  intro p e s m args below meth c s₁ Bd hml0 hP hK
  obtain ⟨rfl, hZ, hh⟩ := hP
  have hx := Bd.exec
  have hby := Bd.bytes
  have hml : c.maxLocals = 1 := hml0
  have hown : s.vm.findClass "com/example/brigid/brigid/core/WaitingLine" = some m.cls := findClass_of_methodNamed Bd.named
  have hnm := (name_of_methodNamed Bd.named Bd.method).1
  have X0 : Stand p l e ({ frames := 0, cells := 0, slots := 0, locals := 0 } : Room) s m #[(.ref A0)] below meth c s₁ [] 0 0 := Stand.of_body Bd
  have e0 : s₁.heap = h0 := by rw [← hh, Bd.state]; rfl
  have N0 := Fr.nil n0
  have pre0 : ∀ t, Steps p.tables e below (s₁.setTop (mkF m 0 #[.val (.ref A0)] [])) t → Steps p.tables e below (s₁.setTop (entryFrame m #[(.ref A0)] 1)) t := fun t k => castTop (ef_5 m A0) k
  obtain ⟨T101, X101, e101, st101⟩ := getF X0 hx hZ hown (host := "") (Or.inl (hw _ (List.mem_of_getElem? (i := 33) rfl))) Via.refl e0 pm1 (g := (mkF m 1 #[.val (.ref A0)] [(.ref A0)])) rfl rfl (hb hby d5_1)
  have pre102 : ∀ t, Steps p.tables e below (T101.setTop (mkF m 4 #[.val (.ref A0)] [(.int W0)])) t → Steps p.tables e below (s₁.setTop (entryFrame m #[(.ref A0)] 1)) t := fun t kt => pre0 t (by
      show Steps p.tables e below (s₁.setTop (mkF m 0 #[.val (.ref A0)] [])) _
      refine XS.aloadN X0.here hx rfl (hb hby d5_0) rfl rfl ?_
      show Steps p.tables e below (s₁.setTop (mkF m 1 #[.val (.ref A0)] [(.ref A0)])) _
      refine st101 _ ?_
      exact kt)
  by_cases hc4 : W0 = (0 : Int32)
  · have pre103 : ∀ t, Steps p.tables e below (T101.setTop (mkF m 12 #[.val (.ref A0)] [(.int (1 : Int32))])) t → Steps p.tables e below (s₁.setTop (entryFrame m #[(.ref A0)] 1)) t := fun t kt => pre102 t (by
        show Steps p.tables e below (T101.setTop (mkF m 4 #[.val (.ref A0)] [(.int W0)])) _
        refine XS.ifNo X101.here hx rfl (hb hby d5_4) rfl ((if0 _ _).trans (teq hc4).2) ?_
        show Steps p.tables e below (T101.setTop (mkF m 7 #[.val (.ref A0)] [])) _
        refine XS.iconst X101.here hx rfl (hb hby d5_7) ?_
        show Steps p.tables e below (T101.setTop (mkF m 8 #[.val (.ref A0)] [(.int (1 : Int32))])) _
        refine XS.goto X101.here hx rfl (pc0 := 8) (pc' := 12) rfl (hb hby d5_8) (by decide) (by decide) ?_
        exact kt)
    obtain ⟨fs, hr, hrun, hended, hW, hsame⟩ := X101.leave (v := some (.int (1 : Int32))) (fun h => by rw [Bd.returns] at h; cases h)
    refine ⟨_, _, pre103 _ ?_, hrun, hended, _, _, rfl, ?_, ⟨_, rfl⟩, hW, hsame.mono (by decide) (by decide)⟩
    · show Steps p.tables e below (T101.setTop (mkF m 12 #[.val (.ref A0)] [(.int (1 : Int32))])) _
      exact retN X101 hx (t := .boolean) Bd.returns (by simp) (hb hby d5_12) hr
    · show Q5 Z A0 W0 h0 n0 _ T101.heap _
      rw [e101]
      exact ⟨(congrArg (fun z => some (Value.int z)) (show (1 : Int32) = (own_emp W0) from by unfold own_emp; rw [if_pos hc4])), N0, rfl⟩
  · have pre104 : ∀ t, Steps p.tables e below (T101.setTop (mkF m 12 #[.val (.ref A0)] [(.int (0 : Int32))])) t → Steps p.tables e below (s₁.setTop (entryFrame m #[(.ref A0)] 1)) t := fun t kt => pre102 t (by
        show Steps p.tables e below (T101.setTop (mkF m 4 #[.val (.ref A0)] [(.int W0)])) _
        refine XS.ifYes X101.here hx rfl (pc0 := 4) (pc' := 11) rfl (hb hby d5_4) rfl ((if0 _ _).trans (feq hc4).2) (by decide) (by decide) ?_
        show Steps p.tables e below (T101.setTop (mkF m 11 #[.val (.ref A0)] [])) _
        refine XS.iconst X101.here hx rfl (hb hby d5_11) ?_
        exact kt)
    obtain ⟨fs, hr, hrun, hended, hW, hsame⟩ := X101.leave (v := some (.int (0 : Int32))) (fun h => by rw [Bd.returns] at h; cases h)
    refine ⟨_, _, pre104 _ ?_, hrun, hended, _, _, rfl, ?_, ⟨_, rfl⟩, hW, hsame.mono (by decide) (by decide)⟩
    · show Steps p.tables e below (T101.setTop (mkF m 12 #[.val (.ref A0)] [(.int (0 : Int32))])) _
      exact retN X101 hx (t := .boolean) Bd.returns (by simp) (hb hby d5_12) hr
    · show Q5 Z A0 W0 h0 n0 _ T101.heap _
      rw [e101]
      exact ⟨(congrArg (fun z => some (Value.int z)) (show (0 : Int32) = (own_emp W0) from by unfold own_emp; rw [if_neg hc4])), N0, rfl⟩
theorem d8_0 : decode prog_14_method_2_code 0 = .ok (.aload_n 0, 1) := by decide +kernel
theorem d8_1 : decode prog_14_method_2_code 1 = .ok (.getfield 10, 3) := by decide +kernel
theorem d8_4 : decode prog_14_method_2_code 4 = .ok (.aload_n 1, 1) := by decide +kernel
theorem d8_5 : decode prog_14_method_2_code 5 = .ok (.invokeinterface 16 2, 5) := by decide +kernel
theorem d8_10 : decode prog_14_method_2_code 10 = .ok (.aload_n 0, 1) := by decide +kernel
theorem d8_11 : decode prog_14_method_2_code 11 = .ok (.aload_n 0, 1) := by decide +kernel
theorem d8_12 : decode prog_14_method_2_code 12 = .ok (.getfield 10, 3) := by decide +kernel
theorem d8_15 : decode prog_14_method_2_code 15 = .ok (.invokeinterface 22 1, 5) := by decide +kernel
theorem d8_20 : decode prog_14_method_2_code 20 = .ok (.putfield 26, 3) := by decide +kernel
theorem d8_23 : decode prog_14_method_2_code 23 = .ok (.return_, 1) := by decide +kernel
theorem pn_8 : plainName "com/example/brigid/brigid/core/WaitingLine" = true := by first | (simp [plainName, overriddenIn]; done) | decide +kernel
theorem pd_8_0 : parseMethodDescriptor "(Ljava/lang/Object;)V" = some ⟨[(.object "java/lang/Object")], none⟩ := by decide +kernel
theorem pd_8_1 : parseMethodDescriptor "()I" = some ⟨[], some .int⟩ := by decide +kernel
theorem ef_8 (m : MethodId) (A0 : Addr) (A1 : Addr) : entryFrame m #[(.ref A0), (.ref A1)] 2 = mkF m 0 #[.val (.ref A0), .val (.ref A1)] [] := by first | (simp [entryFrame, mkF, argsToLocals, Value.category]; done) | rfl
def Q8 (Z : State) (A0 : Addr) (A1 : Addr) (D0 : Addr) (E0 : Addr) (FF : Nat → Value) (HD : Nat) (CN : Nat) (h0 : Heap) (n0 : Nat) (v : Option Value) (h : Heap) (L : List Loc) : Prop := (v = none) ∧ (Fr n0 L) ∧ (Keep h0 h [A0, D0, E0]) ∧ (Exa Z h A0 "com/example/brigid/brigid/core/WaitingLine") ∧ (Fld Z h A0 "com/example/brigid/brigid/core/WaitingLine" "line" "Ljava/util/Deque;" (.ref D0)) ∧ (Fld Z h A0 "com/example/brigid/brigid/core/WaitingLine" "size" "I" (.int (Int32.ofNat (CN + 1)))) ∧ (Exa Z h D0 "java/util/ArrayDeque") ∧ (Fld Z h D0 "java/util/ArrayDeque" "elements" "[Ljava/lang/Object;" (.ref E0)) ∧ (Fld Z h D0 "java/util/ArrayDeque" "head" "I" (.int (Int32.ofNat HD))) ∧ (Fld Z h D0 "java/util/ArrayDeque" "tail" "I" (.int (Int32.ofNat ((HD + (CN + 1)) % 17)))) ∧ (own_El Z h E0 (own_up FF ((HD + CN) % 17) (.ref A1))) ∧ (own_Dq (own_up FF ((HD + CN) % 17) (.ref A1)) HD (CN + 1))
set_option maxRecDepth 65536 in
set_option maxHeartbeats 40000000 in
theorem rm8 (l : Launch) (Z : State) (a0 : Array Value) (hw : ∀ d ∈ tables_1, d.before a0 Z = true) (ws : List Jvm.Cond) (A0 : Addr) (A1 : Addr) (D0 : Addr) (E0 : Addr) (FF : Nat → Value) (HD : Nat) (CN : Nat) (h0 : Heap) (n0 : Nat) (Z0 : n0 ≤ h0.size) (pm0 : Exa Z h0 A0 "com/example/brigid/brigid/core/WaitingLine") (pm1 : Fld Z h0 A0 "com/example/brigid/brigid/core/WaitingLine" "line" "Ljava/util/Deque;" (.ref D0)) (pm2 : Fld Z h0 A0 "com/example/brigid/brigid/core/WaitingLine" "size" "I" (.int (Int32.ofNat CN))) (pm3 : Exa Z h0 D0 "java/util/ArrayDeque") (pm4 : Fld Z h0 D0 "java/util/ArrayDeque" "elements" "[Ljava/lang/Object;" (.ref E0)) (pm5 : Fld Z h0 D0 "java/util/ArrayDeque" "head" "I" (.int (Int32.ofNat HD))) (pm6 : Fld Z h0 D0 "java/util/ArrayDeque" "tail" "I" (.int (Int32.ofNat ((HD + CN) % 17)))) (pm7 : own_El Z h0 E0 FF) (pm8 : Exa Z h0 A1 "java/lang/Integer") (hc : CN + 1 ≤ 4) (hq : own_Dq FF HD CN) (nAD : A0 ≠ D0) (nAE : A0 ≠ E0) (nDE : D0 ≠ E0) (g_A0 : n0 ≤ A0) (g_D0 : n0 ≤ D0) (g_E0 : n0 ≤ E0) :
    MetFree l (⟨"com/example/brigid/brigid/core/WaitingLine", "join", "(Ljava/lang/Object;)V"⟩ : MethodName) (head1 (Jvm.Cond.code (⟨"com/example/brigid/brigid/core/WaitingLine", "join", "(Ljava/lang/Object;)V"⟩ : MethodName) prog_14_method_2_code 2 none :: ws) ({ frames := 2, cells := 0, slots := 0, locals := 29 } : Room)) (fun a U => a = #[(.ref A0), (.ref A1)] ∧ Z.Warmed39 U.vm ∧ U.heap = h0) (fun _ _ _ _ _ => True) (fun _ U o U' => ∃ v L, o = .returned v ∧ Q8 Z A0 A1 D0 E0 FF HD CN h0 n0 v U'.heap L ∧ FrameEnd U o U' L ({ frames := 2, cells := 0, slots := 0, locals := 29 } : Room).cells ({ frames := 2, cells := 0, slots := 0, locals := 29 } : Room).slots) := by
  refine MetFree.of_bodySF (plainFor_of_name pn_8) hisR ?_
  intro p e s m args below meth c s₁ Bd hml0 hP hK
  obtain ⟨rfl, hZ, hh⟩ := hP
  have hx := Bd.exec
  have hby := Bd.bytes
  have hml : c.maxLocals = 2 := hml0
  have hown : s.vm.findClass "com/example/brigid/brigid/core/WaitingLine" = some m.cls := findClass_of_methodNamed Bd.named
  have hnm := (name_of_methodNamed Bd.named Bd.method).1
  have X0 : Stand p l e ({ frames := 2, cells := 0, slots := 0, locals := 29 } : Room) s m #[(.ref A0), (.ref A1)] below meth c s₁ [] 0 0 := Stand.of_body Bd
  have e0 : s₁.heap = h0 := by rw [← hh, Bd.state]; rfl
  have N0 := Fr.nil n0
  have pre0 : ∀ t, Steps p.tables e below (s₁.setTop (mkF m 0 #[.val (.ref A0), .val (.ref A1)] [])) t → Steps p.tables e below (s₁.setTop (entryFrame m #[(.ref A0), (.ref A1)] 2)) t := fun t k => castTop (ef_8 m A0 A1) k
  have K_0 : Keep h0 h0 [A0, D0, E0] := Keep.refl h0 _
  have hq1 := hq.1
  have hq2 := hq.2.1
  obtain ⟨T101, X101, e101, st101⟩ := getF X0 hx hZ hown (host := "") (Or.inl (hw _ (List.mem_of_getElem? (i := 26) rfl))) Via.refl e0 pm1 (g := (mkF m 1 #[.val (.ref A0), .val (.ref A1)] [(.ref A0)])) rfl rfl (hb hby d8_1)
  obtain ⟨cq102, kq102, q102a, q102b, q102c⟩ := isOf hZ e101 pm3
  obtain ⟨_, _, ⟨T102, L102, k102, n102⟩, -, X102, ⟨Lc102, hQ102, l102, y102, z102⟩, st102⟩ := X101.interfaceBack hx (xi := (⟨"java/util/Deque", "addLast", "(Ljava/lang/Object;)V"⟩ : MethodName)) (y := (⟨"java/util/ArrayDeque", "addLast", "(Ljava/lang/Object;)V"⟩ : MethodName)) hown (mvT hZ (hw _ (List.mem_of_getElem? (i := 51) rfl))) (mvT hZ (hw _ (List.mem_of_getElem? (i := 52) rfl))) (mvT hZ (hw _ (List.mem_of_getElem? (i := 53) rfl))) (mvT hZ (hw _ (List.mem_of_getElem? (i := 54) rfl))) (mvT hZ (hw _ (List.mem_of_getElem? (i := 55) rfl))) (mvT hZ (hw _ (List.mem_of_getElem? (i := 56) rfl))) (mvT hZ (hw _ (List.mem_of_getElem? (i := 57) rfl))) (mvT hZ (hw _ (List.mem_of_getElem? (i := 58) rfl))) (by decide) (backOf (W := 0) (rm9 l Z a0 hw [] D0 A1 E0 FF HD CN h0 n0 Z0 pm3 pm4 pm5 pm6 pm7 pm8 (show own_Dq FF HD CN from hq) (show CN + 1 ≤ 4 from hc) (show D0 ≠ E0 from nDE) g_D0 g_E0) hZ (hw _ (List.mem_of_getElem? (i := 59) rfl)) (hw _ (List.mem_of_getElem? (i := 11) rfl)) (by decide) (by decide)) q102a q102b q102c (g := (mkF m 5 #[.val (.ref A0), .val (.ref A1)] [(.ref A1), (.ref D0)])) rfl (by rw [hml]; rfl) (Steps.refl _) (argsL := [(.ref A1)]) (rest := []) (lenOf pd_8_0 rfl) rfl (by show 2 * 0 + _ ≤ _; exact Nat.le_of_eq rfl) (hb hby d8_5) (fun _ _ => ⟨rfl, e101, (by decide : 0 + 0 ≤ _), (by decide : 0 + 0 ≤ _)⟩)
  dsimp only [Pt.U, Pt.locs, Pt.cells, Pt.slots] at X102 l102 y102 z102 st102 hQ102
  subst l102 y102 z102
  obtain ⟨rfl, N102q, K102, p102_0, p102_1, p102_2, p102_3, p102_4, p102_5⟩ := hQ102
  have N102 := Fr.app N0 N102q
  have Z103 : n0 ≤ T102.heap.size := Nat.le_trans Z0 K102.1
  have K_103 : Keep h0 T102.heap [A0, D0, E0] := K_0.trans K102 (allS (Or.inl (List.mem_of_getElem? (i := 1) rfl)) (allS (Or.inl (List.mem_of_getElem? (i := 2) rfl)) all0))
  have c104 : Fld Z T102.heap A0 "com/example/brigid/brigid/core/WaitingLine" "line" "Ljava/util/Deque;" (.ref D0) := (pm1.keep K102 (ninS nAD (ninS nAE nin0)))
  obtain ⟨T105, X105, e105, st105⟩ := getF X102 hx hZ hown (host := "") (Or.inl (hw _ (List.mem_of_getElem? (i := 26) rfl))) Via.refl rfl c104 (g := (mkF m 12 #[.val (.ref A0), .val (.ref A1)] [(.ref A0), (.ref A0)])) rfl rfl (hb hby d8_12)
  obtain ⟨cq106, kq106, q106a, q106b, q106c⟩ := isOf hZ e105 p102_0
  obtain ⟨_, _, ⟨T106, L106, k106, n106⟩, -, X106, ⟨Lc106, hQ106, l106, y106, z106⟩, st106⟩ := X105.interfaceBack hx (xi := (⟨"java/util/Deque", "size", "()I"⟩ : MethodName)) (y := (⟨"java/util/ArrayDeque", "size", "()I"⟩ : MethodName)) hown (mvT hZ (hw _ (List.mem_of_getElem? (i := 68) rfl))) (mvT hZ (hw _ (List.mem_of_getElem? (i := 69) rfl))) (mvT hZ (hw _ (List.mem_of_getElem? (i := 70) rfl))) (mvT hZ (hw _ (List.mem_of_getElem? (i := 71) rfl))) (mvT hZ (hw _ (List.mem_of_getElem? (i := 72) rfl))) (mvT hZ (hw _ (List.mem_of_getElem? (i := 73) rfl))) (mvT hZ (hw _ (List.mem_of_getElem? (i := 74) rfl))) (mvT hZ (hw _ (List.mem_of_getElem? (i := 58) rfl))) (by decide) (backOf (W := 1) (rm11 l Z a0 hw [] D0 E0 (own_up FF ((HD + CN) % 17) (.ref A1)) HD (CN + 1) T102.heap n0 Z103 p102_0 p102_1 p102_2 p102_3 p102_4 (show own_Dq (own_up FF ((HD + CN) % 17) (.ref A1)) HD (CN + 1) from p102_5)) hZ (hw _ (List.mem_of_getElem? (i := 75) rfl)) (hw _ (List.mem_of_getElem? (i := 11) rfl)) (by decide) (by decide)) q106a q106b q106c (g := (mkF m 15 #[.val (.ref A0), .val (.ref A1)] [(.ref D0), (.ref A0)])) rfl (by rw [hml]; rfl) (Steps.refl _) (argsL := []) (rest := [(.ref A0)]) (lenOf pd_8_1 rfl) rfl (by show 2 * 0 + _ ≤ _; exact Nat.le_of_eq rfl) (hb hby d8_15) (fun _ _ => ⟨rfl, e105, (by decide : 0 + 0 ≤ _), (by decide : 0 + 0 ≤ _)⟩)
  dsimp only [Pt.U, Pt.locs, Pt.cells, Pt.slots] at X106 l106 y106 z106 st106 hQ106
  subst l106 y106 z106
  obtain ⟨rfl, N106q, K106⟩ := hQ106
  have N106 := Fr.app N102 N106q
  have c107 : Exa Z T102.heap A0 "com/example/brigid/brigid/core/WaitingLine" := (pm0.keep K102)
  have c108 : Fld Z T102.heap A0 "com/example/brigid/brigid/core/WaitingLine" "size" "I" (.int (Int32.ofNat CN)) := (pm2.keep K102 (ninS nAD (ninS nAE nin0)))
  obtain ⟨T109, h109, X109, e109, W109, st109⟩ := putF X106 hx hZ hown (host := "") (Or.inl (hw _ (List.mem_of_getElem? (i := 33) rfl))) Via.refl K106 c108 c107 (Or.inl (hw _ (List.mem_of_getElem? (i := 34) rfl))) (hw _ (List.mem_of_getElem? (i := 1) rfl)) (ty := .int) (by decide) rfl rfl (g := (mkF m 20 #[.val (.ref A0), .val (.ref A1)] [(.int (Int32.ofNat (CN + 1))), (.ref A0)])) rfl rfl (hb hby d8_20)
  have Z110 : n0 ≤ h109.size := Nat.le_trans Z103 (Nat.le_of_eq W109.size.symm)
  have K_110 : Keep h0 h109 [A0, D0, E0] := K_103.wr W109 (Or.inl (List.mem_of_getElem? (i := 0) rfl))
  have Fw109 : Fld Z h109 A0 "com/example/brigid/brigid/core/WaitingLine" "size" "I" (.int (Int32.ofNat (CN + 1))) := c108.same W109
  have N109 := Fr.snoc X109 N106 g_A0
  have pre111 : ∀ t, Steps p.tables e below (T109.setTop (mkF m 23 #[.val (.ref A0), .val (.ref A1)] [])) t → Steps p.tables e below (s₁.setTop (entryFrame m #[(.ref A0), (.ref A1)] 2)) t := fun t kt => pre0 t (by
      show Steps p.tables e below (s₁.setTop (mkF m 0 #[.val (.ref A0), .val (.ref A1)] [])) _
      refine XS.aloadN X0.here hx rfl (hb hby d8_0) rfl rfl ?_
      show Steps p.tables e below (s₁.setTop (mkF m 1 #[.val (.ref A0), .val (.ref A1)] [(.ref A0)])) _
      refine st101 _ ?_
      show Steps p.tables e below (T101.setTop (mkF m 4 #[.val (.ref A0), .val (.ref A1)] [(.ref D0)])) _
      refine XS.aloadN X101.here hx rfl (hb hby d8_4) rfl rfl ?_
      show Steps p.tables e below (T101.setTop (mkF m 5 #[.val (.ref A0), .val (.ref A1)] [(.ref A1), (.ref D0)])) _
      refine st102.trans ?_
      show Steps p.tables e below (T102.setTop (mkF m 10 #[.val (.ref A0), .val (.ref A1)] [])) _
      refine XS.aloadN X102.here hx rfl (hb hby d8_10) rfl rfl ?_
      show Steps p.tables e below (T102.setTop (mkF m 11 #[.val (.ref A0), .val (.ref A1)] [(.ref A0)])) _
      refine XS.aloadN X102.here hx rfl (hb hby d8_11) rfl rfl ?_
      show Steps p.tables e below (T102.setTop (mkF m 12 #[.val (.ref A0), .val (.ref A1)] [(.ref A0), (.ref A0)])) _
      refine st105 _ ?_
      show Steps p.tables e below (T105.setTop (mkF m 15 #[.val (.ref A0), .val (.ref A1)] [(.ref D0), (.ref A0)])) _
      refine st106.trans ?_
      show Steps p.tables e below (T106.setTop (mkF m 20 #[.val (.ref A0), .val (.ref A1)] [(.int (Int32.ofNat (CN + 1))), (.ref A0)])) _
      refine st109 _ ?_
      exact kt)
  have c112 : Exa Z h109 A0 "com/example/brigid/brigid/core/WaitingLine" := (c107.wr W109)
  have c113 : Fld Z h109 A0 "com/example/brigid/brigid/core/WaitingLine" "line" "Ljava/util/Deque;" (.ref D0) := (c104.other W109 (Or.inr (slot_ne (Or.inr (hw _ (List.mem_of_getElem? (i := 27) rfl))) (Or.inl (hw _ (List.mem_of_getElem? (i := 34) rfl))) (by decide) (t := (.object "java/util/Deque")) (t' := .int) (by decide) (by decide))))
  have c114 : Fld Z h109 D0 "java/util/ArrayDeque" "tail" "I" (.int (Int32.ofNat ((HD + (CN + 1)) % 17))) := (p102_3.other W109 (Or.inl (Ne.symm nAD)))
  have c115 : Exa Z h109 D0 "java/util/ArrayDeque" := (p102_0.wr W109)
  have c116 : Fld Z h109 D0 "java/util/ArrayDeque" "elements" "[Ljava/lang/Object;" (.ref E0) := (p102_1.other W109 (Or.inl (Ne.symm nAD)))
  have c117 : Fld Z h109 D0 "java/util/ArrayDeque" "head" "I" (.int (Int32.ofNat HD)) := (p102_2.other W109 (Or.inl (Ne.symm nAD)))
  have c118 : own_El Z h109 E0 (own_up FF ((HD + CN) % 17) (.ref A1)) := (p102_4.other W109 (Ne.symm nAE))
  obtain ⟨fs, hr, hrun, hended, hW, hsame⟩ := X109.leave (v := none) (fun _ => rfl)
  refine ⟨_, _, pre111 _ ?_, hrun, hended, _, _, rfl, ?_, ⟨_, rfl⟩, hW, hsame.mono (by decide) (by decide)⟩
  · show Steps p.tables e below (T109.setTop (mkF m 23 #[.val (.ref A0), .val (.ref A1)] [])) _
    exact X109.returnOut hx Bd.returns (hb hby d8_23) hr
  · show Q8 Z A0 A1 D0 E0 FF HD CN h0 n0 _ T109.heap _
    rw [e109]
    exact ⟨rfl, N109, K_110, c112, c113, Fw109, c115, c116, c117, c114, c118, p102_5⟩
theorem d28_0 : decode prog_14_method_3_code 0 = .ok (.aload_n 0, 1) := by decide +kernel
theorem d28_1 : decode prog_14_method_3_code 1 = .ok (.getfield 10, 3) := by decide +kernel
theorem d28_4 : decode prog_14_method_3_code 4 = .ok (.aload_n 1, 1) := by decide +kernel
theorem d28_5 : decode prog_14_method_3_code 5 = .ok (.invokeinterface 29 2, 5) := by decide +kernel
theorem d28_10 : decode prog_14_method_3_code 10 = .ok (.aload_n 0, 1) := by decide +kernel
theorem d28_11 : decode prog_14_method_3_code 11 = .ok (.aload_n 0, 1) := by decide +kernel
theorem d28_12 : decode prog_14_method_3_code 12 = .ok (.getfield 10, 3) := by decide +kernel
theorem d28_15 : decode prog_14_method_3_code 15 = .ok (.invokeinterface 22 1, 5) := by decide +kernel
theorem d28_20 : decode prog_14_method_3_code 20 = .ok (.putfield 26, 3) := by decide +kernel
theorem d28_23 : decode prog_14_method_3_code 23 = .ok (.return_, 1) := by decide +kernel
theorem pn_28 : plainName "com/example/brigid/brigid/core/WaitingLine" = true := by first | (simp [plainName, overriddenIn]; done) | decide +kernel
theorem pd_28_0 : parseMethodDescriptor "(Ljava/lang/Object;)V" = some ⟨[(.object "java/lang/Object")], none⟩ := by decide +kernel
theorem pd_28_1 : parseMethodDescriptor "()I" = some ⟨[], some .int⟩ := by decide +kernel
theorem ef_28 (m : MethodId) (A0 : Addr) (A1 : Addr) : entryFrame m #[(.ref A0), (.ref A1)] 2 = mkF m 0 #[.val (.ref A0), .val (.ref A1)] [] := by first | (simp [entryFrame, mkF, argsToLocals, Value.category]; done) | rfl
def Q28 (Z : State) (A0 : Addr) (A1 : Addr) (D0 : Addr) (E0 : Addr) (FF : Nat → Value) (HD : Nat) (CN : Nat) (h0 : Heap) (n0 : Nat) (v : Option Value) (h : Heap) (L : List Loc) : Prop := (v = none) ∧ (Fr n0 L) ∧ (Keep h0 h [A0, D0, E0]) ∧ (Exa Z h A0 "com/example/brigid/brigid/core/WaitingLine") ∧ (Fld Z h A0 "com/example/brigid/brigid/core/WaitingLine" "line" "Ljava/util/Deque;" (.ref D0)) ∧ (Fld Z h A0 "com/example/brigid/brigid/core/WaitingLine" "size" "I" (.int (Int32.ofNat (CN + 1)))) ∧ (Exa Z h D0 "java/util/ArrayDeque") ∧ (Fld Z h D0 "java/util/ArrayDeque" "elements" "[Ljava/lang/Object;" (.ref E0)) ∧ (Fld Z h D0 "java/util/ArrayDeque" "head" "I" (.int (Int32.ofNat ((HD + 16) % 17)))) ∧ (Fld Z h D0 "java/util/ArrayDeque" "tail" "I" (.int (Int32.ofNat ((((HD + 16) % 17) + (CN + 1)) % 17)))) ∧ (own_El Z h E0 (own_up FF ((HD + 16) % 17) (.ref A1))) ∧ (own_Dq (own_up FF ((HD + 16) % 17) (.ref A1)) ((HD + 16) % 17) (CN + 1))
set_option maxRecDepth 65536 in
set_option maxHeartbeats 40000000 in
theorem rm28 (l : Launch) (Z : State) (a0 : Array Value) (hw : ∀ d ∈ tables_1, d.before a0 Z = true) (ws : List Jvm.Cond) (A0 : Addr) (A1 : Addr) (D0 : Addr) (E0 : Addr) (FF : Nat → Value) (HD : Nat) (CN : Nat) (h0 : Heap) (n0 : Nat) (Z0 : n0 ≤ h0.size) (pm0 : Exa Z h0 A0 "com/example/brigid/brigid/core/WaitingLine") (pm1 : Fld Z h0 A0 "com/example/brigid/brigid/core/WaitingLine" "line" "Ljava/util/Deque;" (.ref D0)) (pm2 : Fld Z h0 A0 "com/example/brigid/brigid/core/WaitingLine" "size" "I" (.int (Int32.ofNat CN))) (pm3 : Exa Z h0 D0 "java/util/ArrayDeque") (pm4 : Fld Z h0 D0 "java/util/ArrayDeque" "elements" "[Ljava/lang/Object;" (.ref E0)) (pm5 : Fld Z h0 D0 "java/util/ArrayDeque" "head" "I" (.int (Int32.ofNat HD))) (pm6 : Fld Z h0 D0 "java/util/ArrayDeque" "tail" "I" (.int (Int32.ofNat ((HD + CN) % 17)))) (pm7 : own_El Z h0 E0 FF) (pm8 : Exa Z h0 A1 "java/lang/Integer") (hc : CN + 1 ≤ 4) (hq : own_Dq FF HD CN) (nAD : A0 ≠ D0) (nAE : A0 ≠ E0) (nDE : D0 ≠ E0) (g_A0 : n0 ≤ A0) (g_D0 : n0 ≤ D0) (g_E0 : n0 ≤ E0) :
    MetFree l (⟨"com/example/brigid/brigid/core/WaitingLine", "joinFirst", "(Ljava/lang/Object;)V"⟩ : MethodName) (head1 (Jvm.Cond.code (⟨"com/example/brigid/brigid/core/WaitingLine", "joinFirst", "(Ljava/lang/Object;)V"⟩ : MethodName) prog_14_method_3_code 2 none :: ws) ({ frames := 2, cells := 0, slots := 0, locals := 29 } : Room)) (fun a U => a = #[(.ref A0), (.ref A1)] ∧ Z.Warmed39 U.vm ∧ U.heap = h0) (fun _ _ _ _ _ => True) (fun _ U o U' => ∃ v L, o = .returned v ∧ Q28 Z A0 A1 D0 E0 FF HD CN h0 n0 v U'.heap L ∧ FrameEnd U o U' L ({ frames := 2, cells := 0, slots := 0, locals := 29 } : Room).cells ({ frames := 2, cells := 0, slots := 0, locals := 29 } : Room).slots) := by
  refine MetFree.of_bodySF (plainFor_of_name pn_28) hisR ?_
  intro p e s m args below meth c s₁ Bd hml0 hP hK
  obtain ⟨rfl, hZ, hh⟩ := hP
  have hx := Bd.exec
  have hby := Bd.bytes
  have hml : c.maxLocals = 2 := hml0
  have hown : s.vm.findClass "com/example/brigid/brigid/core/WaitingLine" = some m.cls := findClass_of_methodNamed Bd.named
  have hnm := (name_of_methodNamed Bd.named Bd.method).1
  have X0 : Stand p l e ({ frames := 2, cells := 0, slots := 0, locals := 29 } : Room) s m #[(.ref A0), (.ref A1)] below meth c s₁ [] 0 0 := Stand.of_body Bd
  have e0 : s₁.heap = h0 := by rw [← hh, Bd.state]; rfl
  have N0 := Fr.nil n0
  have pre0 : ∀ t, Steps p.tables e below (s₁.setTop (mkF m 0 #[.val (.ref A0), .val (.ref A1)] [])) t → Steps p.tables e below (s₁.setTop (entryFrame m #[(.ref A0), (.ref A1)] 2)) t := fun t k => castTop (ef_28 m A0 A1) k
  have K_0 : Keep h0 h0 [A0, D0, E0] := Keep.refl h0 _
  have hq1 := hq.1
  have hq2 := hq.2.1
  obtain ⟨T101, X101, e101, st101⟩ := getF X0 hx hZ hown (host := "") (Or.inl (hw _ (List.mem_of_getElem? (i := 26) rfl))) Via.refl e0 pm1 (g := (mkF m 1 #[.val (.ref A0), .val (.ref A1)] [(.ref A0)])) rfl rfl (hb hby d28_1)
  obtain ⟨cq102, kq102, q102a, q102b, q102c⟩ := isOf hZ e101 pm3
  obtain ⟨_, _, ⟨T102, L102, k102, n102⟩, -, X102, ⟨Lc102, hQ102, l102, y102, z102⟩, st102⟩ := X101.interfaceBack hx (xi := (⟨"java/util/Deque", "addFirst", "(Ljava/lang/Object;)V"⟩ : MethodName)) (y := (⟨"java/util/ArrayDeque", "addFirst", "(Ljava/lang/Object;)V"⟩ : MethodName)) hown (mvT hZ (hw _ (List.mem_of_getElem? (i := 197) rfl))) (mvT hZ (hw _ (List.mem_of_getElem? (i := 198) rfl))) (mvT hZ (hw _ (List.mem_of_getElem? (i := 199) rfl))) (mvT hZ (hw _ (List.mem_of_getElem? (i := 200) rfl))) (mvT hZ (hw _ (List.mem_of_getElem? (i := 201) rfl))) (mvT hZ (hw _ (List.mem_of_getElem? (i := 202) rfl))) (mvT hZ (hw _ (List.mem_of_getElem? (i := 203) rfl))) (mvT hZ (hw _ (List.mem_of_getElem? (i := 58) rfl))) (by decide) (backOf (W := 0) (rm29 l Z a0 hw [] D0 A1 E0 FF HD CN h0 n0 Z0 pm3 pm4 pm5 pm6 pm7 pm8 (show own_Dq FF HD CN from hq) (show CN + 1 ≤ 4 from hc) (show D0 ≠ E0 from nDE) g_D0 g_E0) hZ (hw _ (List.mem_of_getElem? (i := 204) rfl)) (hw _ (List.mem_of_getElem? (i := 11) rfl)) (by decide) (by decide)) q102a q102b q102c (g := (mkF m 5 #[.val (.ref A0), .val (.ref A1)] [(.ref A1), (.ref D0)])) rfl (by rw [hml]; rfl) (Steps.refl _) (argsL := [(.ref A1)]) (rest := []) (lenOf pd_28_0 rfl) rfl (by show 2 * 0 + _ ≤ _; exact Nat.le_of_eq rfl) (hb hby d28_5) (fun _ _ => ⟨rfl, e101, (by decide : 0 + 0 ≤ _), (by decide : 0 + 0 ≤ _)⟩)
  dsimp only [Pt.U, Pt.locs, Pt.cells, Pt.slots] at X102 l102 y102 z102 st102 hQ102
  subst l102 y102 z102
  obtain ⟨rfl, N102q, K102, p102_0, p102_1, p102_2, p102_3, p102_4, p102_5⟩ := hQ102
  have N102 := Fr.app N0 N102q
  have Z103 : n0 ≤ T102.heap.size := Nat.le_trans Z0 K102.1
  have K_103 : Keep h0 T102.heap [A0, D0, E0] := K_0.trans K102 (allS (Or.inl (List.mem_of_getElem? (i := 1) rfl)) (allS (Or.inl (List.mem_of_getElem? (i := 2) rfl)) all0))
  have c104 : Fld Z T102.heap A0 "com/example/brigid/brigid/core/WaitingLine" "line" "Ljava/util/Deque;" (.ref D0) := (pm1.keep K102 (ninS nAD (ninS nAE nin0)))
  obtain ⟨T105, X105, e105, st105⟩ := getF X102 hx hZ hown (host := "") (Or.inl (hw _ (List.mem_of_getElem? (i := 26) rfl))) Via.refl rfl c104 (g := (mkF m 12 #[.val (.ref A0), .val (.ref A1)] [(.ref A0), (.ref A0)])) rfl rfl (hb hby d28_12)
  obtain ⟨cq106, kq106, q106a, q106b, q106c⟩ := isOf hZ e105 p102_0
  obtain ⟨_, _, ⟨T106, L106, k106, n106⟩, -, X106, ⟨Lc106, hQ106, l106, y106, z106⟩, st106⟩ := X105.interfaceBack hx (xi := (⟨"java/util/Deque", "size", "()I"⟩ : MethodName)) (y := (⟨"java/util/ArrayDeque", "size", "()I"⟩ : MethodName)) hown (mvT hZ (hw _ (List.mem_of_getElem? (i := 68) rfl))) (mvT hZ (hw _ (List.mem_of_getElem? (i := 69) rfl))) (mvT hZ (hw _ (List.mem_of_getElem? (i := 70) rfl))) (mvT hZ (hw _ (List.mem_of_getElem? (i := 71) rfl))) (mvT hZ (hw _ (List.mem_of_getElem? (i := 72) rfl))) (mvT hZ (hw _ (List.mem_of_getElem? (i := 73) rfl))) (mvT hZ (hw _ (List.mem_of_getElem? (i := 74) rfl))) (mvT hZ (hw _ (List.mem_of_getElem? (i := 58) rfl))) (by decide) (backOf (W := 1) (rm11 l Z a0 hw [] D0 E0 (own_up FF ((HD + 16) % 17) (.ref A1)) ((HD + 16) % 17) (CN + 1) T102.heap n0 Z103 p102_0 p102_1 p102_2 p102_3 p102_4 (show own_Dq (own_up FF ((HD + 16) % 17) (.ref A1)) ((HD + 16) % 17) (CN + 1) from p102_5)) hZ (hw _ (List.mem_of_getElem? (i := 75) rfl)) (hw _ (List.mem_of_getElem? (i := 11) rfl)) (by decide) (by decide)) q106a q106b q106c (g := (mkF m 15 #[.val (.ref A0), .val (.ref A1)] [(.ref D0), (.ref A0)])) rfl (by rw [hml]; rfl) (Steps.refl _) (argsL := []) (rest := [(.ref A0)]) (lenOf pd_28_1 rfl) rfl (by show 2 * 0 + _ ≤ _; exact Nat.le_of_eq rfl) (hb hby d28_15) (fun _ _ => ⟨rfl, e105, (by decide : 0 + 0 ≤ _), (by decide : 0 + 0 ≤ _)⟩)
  dsimp only [Pt.U, Pt.locs, Pt.cells, Pt.slots] at X106 l106 y106 z106 st106 hQ106
  subst l106 y106 z106
  obtain ⟨rfl, N106q, K106⟩ := hQ106
  have N106 := Fr.app N102 N106q
  have c107 : Exa Z T102.heap A0 "com/example/brigid/brigid/core/WaitingLine" := (pm0.keep K102)
  have c108 : Fld Z T102.heap A0 "com/example/brigid/brigid/core/WaitingLine" "size" "I" (.int (Int32.ofNat CN)) := (pm2.keep K102 (ninS nAD (ninS nAE nin0)))
  obtain ⟨T109, h109, X109, e109, W109, st109⟩ := putF X106 hx hZ hown (host := "") (Or.inl (hw _ (List.mem_of_getElem? (i := 33) rfl))) Via.refl K106 c108 c107 (Or.inl (hw _ (List.mem_of_getElem? (i := 34) rfl))) (hw _ (List.mem_of_getElem? (i := 1) rfl)) (ty := .int) (by decide) rfl rfl (g := (mkF m 20 #[.val (.ref A0), .val (.ref A1)] [(.int (Int32.ofNat (CN + 1))), (.ref A0)])) rfl rfl (hb hby d28_20)
  have Z110 : n0 ≤ h109.size := Nat.le_trans Z103 (Nat.le_of_eq W109.size.symm)
  have K_110 : Keep h0 h109 [A0, D0, E0] := K_103.wr W109 (Or.inl (List.mem_of_getElem? (i := 0) rfl))
  have Fw109 : Fld Z h109 A0 "com/example/brigid/brigid/core/WaitingLine" "size" "I" (.int (Int32.ofNat (CN + 1))) := c108.same W109
  have N109 := Fr.snoc X109 N106 g_A0
  have pre111 : ∀ t, Steps p.tables e below (T109.setTop (mkF m 23 #[.val (.ref A0), .val (.ref A1)] [])) t → Steps p.tables e below (s₁.setTop (entryFrame m #[(.ref A0), (.ref A1)] 2)) t := fun t kt => pre0 t (by
      show Steps p.tables e below (s₁.setTop (mkF m 0 #[.val (.ref A0), .val (.ref A1)] [])) _
      refine XS.aloadN X0.here hx rfl (hb hby d28_0) rfl rfl ?_
      show Steps p.tables e below (s₁.setTop (mkF m 1 #[.val (.ref A0), .val (.ref A1)] [(.ref A0)])) _
      refine st101 _ ?_
      show Steps p.tables e below (T101.setTop (mkF m 4 #[.val (.ref A0), .val (.ref A1)] [(.ref D0)])) _
      refine XS.aloadN X101.here hx rfl (hb hby d28_4) rfl rfl ?_
      show Steps p.tables e below (T101.setTop (mkF m 5 #[.val (.ref A0), .val (.ref A1)] [(.ref A1), (.ref D0)])) _
      refine st102.trans ?_
      show Steps p.tables e below (T102.setTop (mkF m 10 #[.val (.ref A0), .val (.ref A1)] [])) _
      refine XS.aloadN X102.here hx rfl (hb hby d28_10) rfl rfl ?_
      show Steps p.tables e below (T102.setTop (mkF m 11 #[.val (.ref A0), .val (.ref A1)] [(.ref A0)])) _
      refine XS.aloadN X102.here hx rfl (hb hby d28_11) rfl rfl ?_
      show Steps p.tables e below (T102.setTop (mkF m 12 #[.val (.ref A0), .val (.ref A1)] [(.ref A0), (.ref A0)])) _
      refine st105 _ ?_
      show Steps p.tables e below (T105.setTop (mkF m 15 #[.val (.ref A0), .val (.ref A1)] [(.ref D0), (.ref A0)])) _
      refine st106.trans ?_
      show Steps p.tables e below (T106.setTop (mkF m 20 #[.val (.ref A0), .val (.ref A1)] [(.int (Int32.ofNat (CN + 1))), (.ref A0)])) _
      refine st109 _ ?_
      exact kt)
  have c112 : Exa Z h109 A0 "com/example/brigid/brigid/core/WaitingLine" := (c107.wr W109)
  have c113 : Fld Z h109 A0 "com/example/brigid/brigid/core/WaitingLine" "line" "Ljava/util/Deque;" (.ref D0) := (c104.other W109 (Or.inr (slot_ne (Or.inr (hw _ (List.mem_of_getElem? (i := 27) rfl))) (Or.inl (hw _ (List.mem_of_getElem? (i := 34) rfl))) (by decide) (t := (.object "java/util/Deque")) (t' := .int) (by decide) (by decide))))
  have c114 : Fld Z h109 D0 "java/util/ArrayDeque" "tail" "I" (.int (Int32.ofNat ((((HD + 16) % 17) + (CN + 1)) % 17))) := (p102_3.other W109 (Or.inl (Ne.symm nAD)))
  have c115 : Exa Z h109 D0 "java/util/ArrayDeque" := (p102_0.wr W109)
  have c116 : Fld Z h109 D0 "java/util/ArrayDeque" "elements" "[Ljava/lang/Object;" (.ref E0) := (p102_1.other W109 (Or.inl (Ne.symm nAD)))
  have c117 : Fld Z h109 D0 "java/util/ArrayDeque" "head" "I" (.int (Int32.ofNat ((HD + 16) % 17))) := (p102_2.other W109 (Or.inl (Ne.symm nAD)))
  have c118 : own_El Z h109 E0 (own_up FF ((HD + 16) % 17) (.ref A1)) := (p102_4.other W109 (Ne.symm nAE))
  obtain ⟨fs, hr, hrun, hended, hW, hsame⟩ := X109.leave (v := none) (fun _ => rfl)
  refine ⟨_, _, pre111 _ ?_, hrun, hended, _, _, rfl, ?_, ⟨_, rfl⟩, hW, hsame.mono (by decide) (by decide)⟩
  · show Steps p.tables e below (T109.setTop (mkF m 23 #[.val (.ref A0), .val (.ref A1)] [])) _
    exact X109.returnOut hx Bd.returns (hb hby d28_23) hr
  · show Q28 Z A0 A1 D0 E0 FF HD CN h0 n0 _ T109.heap _
    rw [e109]
    exact ⟨rfl, N109, K_110, c112, c113, Fw109, c115, c116, c117, c114, c118, p102_5⟩
theorem d13_0 : decode prog_14_method_4_code 0 = .ok (.aload_n 0, 1) := by decide +kernel
theorem d13_1 : decode prog_14_method_4_code 1 = .ok (.getfield 10, 3) := by decide +kernel
theorem d13_4 : decode prog_14_method_4_code 4 = .ok (.invokeinterface 32 1, 5) := by decide +kernel
theorem d13_9 : decode prog_14_method_4_code 9 = .ok (.astore_n 1, 1) := by decide +kernel
theorem d13_10 : decode prog_14_method_4_code 10 = .ok (.aload_n 0, 1) := by decide +kernel
theorem d13_11 : decode prog_14_method_4_code 11 = .ok (.aload_n 0, 1) := by decide +kernel
theorem d13_12 : decode prog_14_method_4_code 12 = .ok (.getfield 10, 3) := by decide +kernel
theorem d13_15 : decode prog_14_method_4_code 15 = .ok (.invokeinterface 22 1, 5) := by decide +kernel
theorem d13_20 : decode prog_14_method_4_code 20 = .ok (.putfield 26, 3) := by decide +kernel
theorem d13_23 : decode prog_14_method_4_code 23 = .ok (.aload_n 1, 1) := by decide +kernel
theorem d13_24 : decode prog_14_method_4_code 24 = .ok (.areturn, 1) := by decide +kernel
theorem pn_13 : plainName "com/example/brigid/brigid/core/WaitingLine" = true := by first | (simp [plainName, overriddenIn]; done) | decide +kernel
theorem pd_nN_0 : parseMethodDescriptor "()Ljava/lang/Object;" = some ⟨[], some (.object "java/lang/Object")⟩ := by decide +kernel
theorem pd_nN_1 : parseMethodDescriptor "()I" = some ⟨[], some .int⟩ := by decide +kernel
theorem ef_nN (m : MethodId) (A0 : Addr) : entryFrame m #[(.ref A0)] 2 = mkF m 0 #[.val (.ref A0), .unset] [] := by first | (simp [entryFrame, mkF, argsToLocals, Value.category]; done) | rfl
def QnN (Z : State) (A0 : Addr) (D0 : Addr) (E0 : Addr) (FF : Nat → Value) (HD : Nat) (CN : Nat) (h0 : Heap) (n0 : Nat) (v : Option Value) (h : Heap) (L : List Loc) : Prop := (v = some .null) ∧ (Fr n0 L) ∧ (Keep h0 h [A0, D0, E0]) ∧ (Exa Z h A0 "com/example/brigid/brigid/core/WaitingLine") ∧ (Fld Z h A0 "com/example/brigid/brigid/core/WaitingLine" "line" "Ljava/util/Deque;" (.ref D0)) ∧ (Fld Z h A0 "com/example/brigid/brigid/core/WaitingLine" "size" "I" (.int (Int32.ofNat CN))) ∧ (Exa Z h D0 "java/util/ArrayDeque") ∧ (Fld Z h D0 "java/util/ArrayDeque" "elements" "[Ljava/lang/Object;" (.ref E0)) ∧ (Fld Z h D0 "java/util/ArrayDeque" "head" "I" (.int (Int32.ofNat HD))) ∧ (Fld Z h D0 "java/util/ArrayDeque" "tail" "I" (.int (Int32.ofNat ((HD + CN) % 17)))) ∧ (own_El Z h E0 FF) ∧ (own_Dq FF HD CN)
set_option maxRecDepth 65536 in
set_option maxHeartbeats 40000000 in
theorem rmnN (l : Launch) (Z : State) (a0 : Array Value) (hw : ∀ d ∈ tables_1, d.before a0 Z = true) (ws : List Jvm.Cond) (A0 : Addr) (D0 : Addr) (E0 : Addr) (FF : Nat → Value) (HD : Nat) (CN : Nat) (h0 : Heap) (n0 : Nat) (Z0 : n0 ≤ h0.size) (pm0 : Exa Z h0 A0 "com/example/brigid/brigid/core/WaitingLine") (pm1 : Fld Z h0 A0 "com/example/brigid/brigid/core/WaitingLine" "line" "Ljava/util/Deque;" (.ref D0)) (pm2 : Fld Z h0 A0 "com/example/brigid/brigid/core/WaitingLine" "size" "I" (.int (Int32.ofNat CN))) (pm3 : Exa Z h0 D0 "java/util/ArrayDeque") (pm4 : Fld Z h0 D0 "java/util/ArrayDeque" "elements" "[Ljava/lang/Object;" (.ref E0)) (pm5 : Fld Z h0 D0 "java/util/ArrayDeque" "head" "I" (.int (Int32.ofNat HD))) (pm6 : Fld Z h0 D0 "java/util/ArrayDeque" "tail" "I" (.int (Int32.ofNat ((HD + CN) % 17)))) (pm7 : own_El Z h0 E0 FF) (hz : CN = 0) (hq : own_Dq FF HD CN) (nAD : A0 ≠ D0) (nAE : A0 ≠ E0) (nDE : D0 ≠ E0) (g_A0 : n0 ≤ A0) (g_D0 : n0 ≤ D0) (g_E0 : n0 ≤ E0) :
    MetFree l (⟨"com/example/brigid/brigid/core/WaitingLine", "next", "()Ljava/lang/Object;"⟩ : MethodName) (head1 (Jvm.Cond.code (⟨"com/example/brigid/brigid/core/WaitingLine", "next", "()Ljava/lang/Object;"⟩ : MethodName) prog_14_method_4_code 2 (some (.object "java/lang/Object")) :: ws) ({ frames := 2, cells := 0, slots := 0, locals := 28 } : Room)) (fun a U => a = #[(.ref A0)] ∧ Z.Warmed39 U.vm ∧ U.heap = h0) (fun _ _ _ _ _ => True) (fun _ U o U' => ∃ v L, o = .returned v ∧ QnN Z A0 D0 E0 FF HD CN h0 n0 v U'.heap L ∧ FrameEnd U o U' L ({ frames := 2, cells := 0, slots := 0, locals := 28 } : Room).cells ({ frames := 2, cells := 0, slots := 0, locals := 28 } : Room).slots) := by
  refine MetFree.of_bodySF (plainFor_of_name pn_13) hisR ?_
  intro p e s m args below meth c s₁ Bd hml0 hP hK
  obtain ⟨rfl, hZ, hh⟩ := hP
  have hx := Bd.exec
  have hby := Bd.bytes
  have hml : c.maxLocals = 2 := hml0
  have hown : s.vm.findClass "com/example/brigid/brigid/core/WaitingLine" = some m.cls := findClass_of_methodNamed Bd.named
  have hnm := (name_of_methodNamed Bd.named Bd.method).1
  have X0 : Stand p l e ({ frames := 2, cells := 0, slots := 0, locals := 28 } : Room) s m #[(.ref A0)] below meth c s₁ [] 0 0 := Stand.of_body Bd
  have e0 : s₁.heap = h0 := by rw [← hh, Bd.state]; rfl
  have N0 := Fr.nil n0
  have pre0 : ∀ t, Steps p.tables e below (s₁.setTop (mkF m 0 #[.val (.ref A0), .unset] [])) t → Steps p.tables e below (s₁.setTop (entryFrame m #[(.ref A0)] 2)) t := fun t k => castTop (ef_nN m A0) k
  have K_0 : Keep h0 h0 [A0, D0, E0] := Keep.refl h0 _
  have hq1 := hq.1
  have hq2 := hq.2.1
  obtain ⟨T101, X101, e101, st101⟩ := getF X0 hx hZ hown (host := "") (Or.inl (hw _ (List.mem_of_getElem? (i := 26) rfl))) Via.refl e0 pm1 (g := (mkF m 1 #[.val (.ref A0), .unset] [(.ref A0)])) rfl rfl (hb hby d13_1)
  obtain ⟨cq102, kq102, q102a, q102b, q102c⟩ := isOf hZ e101 pm3
  obtain ⟨_, _, ⟨T102, L102, k102, n102⟩, -, X102, ⟨Lc102, hQ102, l102, y102, z102⟩, st102⟩ := X101.interfaceBack hx (xi := (⟨"java/util/Deque", "pollFirst", "()Ljava/lang/Object;"⟩ : MethodName)) (y := (⟨"java/util/ArrayDeque", "pollFirst", "()Ljava/lang/Object;"⟩ : MethodName)) hown (mvT hZ (hw _ (List.mem_of_getElem? (i := 84) rfl))) (mvT hZ (hw _ (List.mem_of_getElem? (i := 85) rfl))) (mvT hZ (hw _ (List.mem_of_getElem? (i := 86) rfl))) (mvT hZ (hw _ (List.mem_of_getElem? (i := 87) rfl))) (mvT hZ (hw _ (List.mem_of_getElem? (i := 88) rfl))) (mvT hZ (hw _ (List.mem_of_getElem? (i := 89) rfl))) (mvT hZ (hw _ (List.mem_of_getElem? (i := 90) rfl))) (mvT hZ (hw _ (List.mem_of_getElem? (i := 58) rfl))) (by decide) (backOf (W := 0) (rmpN l Z a0 hw [] D0 E0 FF HD CN h0 n0 Z0 pm3 pm4 pm5 pm6 pm7 (show own_Dq FF HD CN from hq) (show CN = 0 from hz)) hZ (hw _ (List.mem_of_getElem? (i := 91) rfl)) (hw _ (List.mem_of_getElem? (i := 11) rfl)) (by decide) (by decide)) q102a q102b q102c (g := (mkF m 4 #[.val (.ref A0), .unset] [(.ref D0)])) rfl (by rw [hml]; rfl) (Steps.refl _) (argsL := []) (rest := []) (lenOf pd_nN_0 rfl) rfl (by show 2 * 0 + _ ≤ _; exact Nat.le_of_eq rfl) (hb hby d13_4) (fun _ _ => ⟨rfl, e101, (by decide : 0 + 0 ≤ _), (by decide : 0 + 0 ≤ _)⟩)
  dsimp only [Pt.U, Pt.locs, Pt.cells, Pt.slots] at X102 l102 y102 z102 st102 hQ102
  subst l102 y102 z102
  obtain ⟨rfl, N102q, K102⟩ := hQ102
  have N102 := Fr.app N0 N102q
  obtain ⟨T103, X103, e103, st103⟩ := getF X102 hx hZ hown (host := "") (Or.inl (hw _ (List.mem_of_getElem? (i := 26) rfl))) Via.refl K102 pm1 (g := (mkF m 12 #[.val (.ref A0), .val .null] [(.ref A0), (.ref A0)])) rfl rfl (hb hby d13_12)
  obtain ⟨cq104, kq104, q104a, q104b, q104c⟩ := isOf hZ e103 pm3
  obtain ⟨_, _, ⟨T104, L104, k104, n104⟩, -, X104, ⟨Lc104, hQ104, l104, y104, z104⟩, st104⟩ := X103.interfaceBack hx (xi := (⟨"java/util/Deque", "size", "()I"⟩ : MethodName)) (y := (⟨"java/util/ArrayDeque", "size", "()I"⟩ : MethodName)) hown (mvT hZ (hw _ (List.mem_of_getElem? (i := 68) rfl))) (mvT hZ (hw _ (List.mem_of_getElem? (i := 69) rfl))) (mvT hZ (hw _ (List.mem_of_getElem? (i := 70) rfl))) (mvT hZ (hw _ (List.mem_of_getElem? (i := 71) rfl))) (mvT hZ (hw _ (List.mem_of_getElem? (i := 72) rfl))) (mvT hZ (hw _ (List.mem_of_getElem? (i := 73) rfl))) (mvT hZ (hw _ (List.mem_of_getElem? (i := 74) rfl))) (mvT hZ (hw _ (List.mem_of_getElem? (i := 58) rfl))) (by decide) (backOf (W := 1) (rm11 l Z a0 hw [] D0 E0 FF HD CN h0 n0 Z0 pm3 pm4 pm5 pm6 pm7 (show own_Dq FF HD CN from hq)) hZ (hw _ (List.mem_of_getElem? (i := 75) rfl)) (hw _ (List.mem_of_getElem? (i := 11) rfl)) (by decide) (by decide)) q104a q104b q104c (g := (mkF m 15 #[.val (.ref A0), .val .null] [(.ref D0), (.ref A0)])) rfl (by rw [hml]; rfl) (Steps.refl _) (argsL := []) (rest := [(.ref A0)]) (lenOf pd_nN_1 rfl) rfl (by show 2 * 0 + _ ≤ _; exact Nat.le_of_eq rfl) (hb hby d13_15) (fun _ _ => ⟨rfl, e103, (by decide : 0 + 0 ≤ _), (by decide : 0 + 0 ≤ _)⟩)
  dsimp only [Pt.U, Pt.locs, Pt.cells, Pt.slots] at X104 l104 y104 z104 st104 hQ104
  subst l104 y104 z104
  obtain ⟨rfl, N104q, K104⟩ := hQ104
  have N104 := Fr.app N102 N104q
  obtain ⟨T105, h105, X105, e105, W105, st105⟩ := putF X104 hx hZ hown (host := "") (Or.inl (hw _ (List.mem_of_getElem? (i := 33) rfl))) Via.refl K104 pm2 pm0 (Or.inl (hw _ (List.mem_of_getElem? (i := 34) rfl))) (hw _ (List.mem_of_getElem? (i := 1) rfl)) (ty := .int) (by decide) rfl rfl (g := (mkF m 20 #[.val (.ref A0), .val .null] [(.int (Int32.ofNat CN)), (.ref A0)])) rfl rfl (hb hby d13_20)
  have Z106 : n0 ≤ h105.size := Nat.le_trans Z0 (Nat.le_of_eq W105.size.symm)
  have K_106 : Keep h0 h105 [A0, D0, E0] := K_0.wr W105 (Or.inl (List.mem_of_getElem? (i := 0) rfl))
  have Fw105 : Fld Z h105 A0 "com/example/brigid/brigid/core/WaitingLine" "size" "I" (.int (Int32.ofNat CN)) := pm2.same W105
  have N105 := Fr.snoc X105 N104 g_A0
  have pre107 : ∀ t, Steps p.tables e below (T105.setTop (mkF m 24 #[.val (.ref A0), .val .null] [.null])) t → Steps p.tables e below (s₁.setTop (entryFrame m #[(.ref A0)] 2)) t := fun t kt => pre0 t (by
      show Steps p.tables e below (s₁.setTop (mkF m 0 #[.val (.ref A0), .unset] [])) _
      refine XS.aloadN X0.here hx rfl (hb hby d13_0) rfl rfl ?_
      show Steps p.tables e below (s₁.setTop (mkF m 1 #[.val (.ref A0), .unset] [(.ref A0)])) _
      refine st101 _ ?_
      show Steps p.tables e below (T101.setTop (mkF m 4 #[.val (.ref A0), .unset] [(.ref D0)])) _
      refine st102.trans ?_
      show Steps p.tables e below (T102.setTop (mkF m 9 #[.val (.ref A0), .unset] [.null])) _
      refine XS.astoreN X102.here hx rfl (hb hby d13_9) rfl rfl (l' := #[.val (.ref A0), .val .null]) rfl ?_
      show Steps p.tables e below (T102.setTop (mkF m 10 #[.val (.ref A0), .val .null] [])) _
      refine XS.aloadN X102.here hx rfl (hb hby d13_10) rfl rfl ?_
      show Steps p.tables e below (T102.setTop (mkF m 11 #[.val (.ref A0), .val .null] [(.ref A0)])) _
      refine XS.aloadN X102.here hx rfl (hb hby d13_11) rfl rfl ?_
      show Steps p.tables e below (T102.setTop (mkF m 12 #[.val (.ref A0), .val .null] [(.ref A0), (.ref A0)])) _
      refine st103 _ ?_
      show Steps p.tables e below (T103.setTop (mkF m 15 #[.val (.ref A0), .val .null] [(.ref D0), (.ref A0)])) _
      refine st104.trans ?_
      show Steps p.tables e below (T104.setTop (mkF m 20 #[.val (.ref A0), .val .null] [(.int (Int32.ofNat CN)), (.ref A0)])) _
      refine st105 _ ?_
      show Steps p.tables e below (T105.setTop (mkF m 23 #[.val (.ref A0), .val .null] [])) _
      refine XS.aloadN X105.here hx rfl (hb hby d13_23) rfl rfl ?_
      exact kt)
  have c108 : Exa Z h105 A0 "com/example/brigid/brigid/core/WaitingLine" := (pm0.wr W105)
  have c109 : Fld Z h105 A0 "com/example/brigid/brigid/core/WaitingLine" "line" "Ljava/util/Deque;" (.ref D0) := (pm1.other W105 (Or.inr (slot_ne (Or.inr (hw _ (List.mem_of_getElem? (i := 27) rfl))) (Or.inl (hw _ (List.mem_of_getElem? (i := 34) rfl))) (by decide) (t := (.object "java/util/Deque")) (t' := .int) (by decide) (by decide))))
  have c110 : Fld Z h105 D0 "java/util/ArrayDeque" "tail" "I" (.int (Int32.ofNat ((HD + CN) % 17))) := (pm6.other W105 (Or.inl (Ne.symm nAD)))
  have c111 : Exa Z h105 D0 "java/util/ArrayDeque" := (pm3.wr W105)
  have c112 : Fld Z h105 D0 "java/util/ArrayDeque" "elements" "[Ljava/lang/Object;" (.ref E0) := (pm4.other W105 (Or.inl (Ne.symm nAD)))
  have c113 : Fld Z h105 D0 "java/util/ArrayDeque" "head" "I" (.int (Int32.ofNat HD)) := (pm5.other W105 (Or.inl (Ne.symm nAD)))
  have c114 : own_El Z h105 E0 FF := (pm7.other W105 (Ne.symm nAE))
  obtain ⟨fs, hr, hrun, hended, hW, hsame⟩ := X105.leave (v := some .null) (fun h => by rw [Bd.returns] at h; cases h)
  refine ⟨_, _, pre107 _ ?_, hrun, hended, _, _, rfl, ?_, ⟨_, rfl⟩, hW, hsame.mono (by decide) (by decide)⟩
  · show Steps p.tables e below (T105.setTop (mkF m 24 #[.val (.ref A0), .val .null] [.null])) _
    exact retOut X105 hx Bd.returns rfl (Or.inr (Or.inr (Or.inr (Or.inr ⟨rfl, rfl, rfl⟩)))) (hb hby d13_24) hr
  · show QnN Z A0 D0 E0 FF HD CN h0 n0 _ T105.heap _
    rw [e105]
    exact ⟨rfl, N105, K_106, c108, c109, Fw105, c111, c112, c113, c110, c114, hq⟩
theorem pd_nR_0 : parseMethodDescriptor "()Ljava/lang/Object;" = some ⟨[], some (.object "java/lang/Object")⟩ := by decide +kernel
theorem pd_nR_1 : parseMethodDescriptor "()I" = some ⟨[], some .int⟩ := by decide +kernel
theorem ef_nR (m : MethodId) (A0 : Addr) : entryFrame m #[(.ref A0)] 2 = mkF m 0 #[.val (.ref A0), .unset] [] := by first | (simp [entryFrame, mkF, argsToLocals, Value.category]; done) | rfl
def QnR (Z : State) (A0 : Addr) (D0 : Addr) (E0 : Addr) (FF : Nat → Value) (HD : Nat) (CN : Nat) (h0 : Heap) (n0 : Nat) (v : Option Value) (h : Heap) (L : List Loc) : Prop := ∃ R0 : Addr, (v = some (.ref R0)) ∧ (Fr n0 L) ∧ (Keep h0 h [A0, D0, E0]) ∧ (Exa Z h A0 "com/example/brigid/brigid/core/WaitingLine") ∧ (Fld Z h A0 "com/example/brigid/brigid/core/WaitingLine" "line" "Ljava/util/Deque;" (.ref D0)) ∧ (Fld Z h A0 "com/example/brigid/brigid/core/WaitingLine" "size" "I" (.int (Int32.ofNat (CN - 1)))) ∧ (Exa Z h D0 "java/util/ArrayDeque") ∧ (Fld Z h D0 "java/util/ArrayDeque" "elements" "[Ljava/lang/Object;" (.ref E0)) ∧ (Fld Z h D0 "java/util/ArrayDeque" "head" "I" (.int (Int32.ofNat ((HD + 1) % 17)))) ∧ (Fld Z h D0 "java/util/ArrayDeque" "tail" "I" (.int (Int32.ofNat ((((HD + 1) % 17) + (CN - 1)) % 17)))) ∧ (own_El Z h E0 (own_up FF HD .null)) ∧ (own_Dq (own_up FF HD .null) ((HD + 1) % 17) (CN - 1))
set_option maxRecDepth 65536 in
set_option maxHeartbeats 40000000 in
theorem rmnR (l : Launch) (Z : State) (a0 : Array Value) (hw : ∀ d ∈ tables_1, d.before a0 Z = true) (ws : List Jvm.Cond) (A0 : Addr) (D0 : Addr) (E0 : Addr) (FF : Nat → Value) (HD : Nat) (CN : Nat) (h0 : Heap) (n0 : Nat) (Z0 : n0 ≤ h0.size) (pm0 : Exa Z h0 A0 "com/example/brigid/brigid/core/WaitingLine") (pm1 : Fld Z h0 A0 "com/example/brigid/brigid/core/WaitingLine" "line" "Ljava/util/Deque;" (.ref D0)) (pm2 : Fld Z h0 A0 "com/example/brigid/brigid/core/WaitingLine" "size" "I" (.int (Int32.ofNat CN))) (pm3 : Exa Z h0 D0 "java/util/ArrayDeque") (pm4 : Fld Z h0 D0 "java/util/ArrayDeque" "elements" "[Ljava/lang/Object;" (.ref E0)) (pm5 : Fld Z h0 D0 "java/util/ArrayDeque" "head" "I" (.int (Int32.ofNat HD))) (pm6 : Fld Z h0 D0 "java/util/ArrayDeque" "tail" "I" (.int (Int32.ofNat ((HD + CN) % 17)))) (pm7 : own_El Z h0 E0 FF) (hz : 0 < CN) (hq : own_Dq FF HD CN) (nAD : A0 ≠ D0) (nAE : A0 ≠ E0) (nDE : D0 ≠ E0) (g_A0 : n0 ≤ A0) (g_D0 : n0 ≤ D0) (g_E0 : n0 ≤ E0) :
    MetFree l (⟨"com/example/brigid/brigid/core/WaitingLine", "next", "()Ljava/lang/Object;"⟩ : MethodName) (head1 (Jvm.Cond.code (⟨"com/example/brigid/brigid/core/WaitingLine", "next", "()Ljava/lang/Object;"⟩ : MethodName) prog_14_method_4_code 2 (some (.object "java/lang/Object")) :: ws) ({ frames := 2, cells := 0, slots := 0, locals := 29 } : Room)) (fun a U => a = #[(.ref A0)] ∧ Z.Warmed39 U.vm ∧ U.heap = h0) (fun _ _ _ _ _ => True) (fun _ U o U' => ∃ v L, o = .returned v ∧ QnR Z A0 D0 E0 FF HD CN h0 n0 v U'.heap L ∧ FrameEnd U o U' L ({ frames := 2, cells := 0, slots := 0, locals := 29 } : Room).cells ({ frames := 2, cells := 0, slots := 0, locals := 29 } : Room).slots) := by
  refine MetFree.of_bodySF (plainFor_of_name pn_13) hisR ?_
  intro p e s m args below meth c s₁ Bd hml0 hP hK
  obtain ⟨rfl, hZ, hh⟩ := hP
  have hx := Bd.exec
  have hby := Bd.bytes
  have hml : c.maxLocals = 2 := hml0
  have hown : s.vm.findClass "com/example/brigid/brigid/core/WaitingLine" = some m.cls := findClass_of_methodNamed Bd.named
  have hnm := (name_of_methodNamed Bd.named Bd.method).1
  have X0 : Stand p l e ({ frames := 2, cells := 0, slots := 0, locals := 29 } : Room) s m #[(.ref A0)] below meth c s₁ [] 0 0 := Stand.of_body Bd
  have e0 : s₁.heap = h0 := by rw [← hh, Bd.state]; rfl
  have N0 := Fr.nil n0
  have pre0 : ∀ t, Steps p.tables e below (s₁.setTop (mkF m 0 #[.val (.ref A0), .unset] [])) t → Steps p.tables e below (s₁.setTop (entryFrame m #[(.ref A0)] 2)) t := fun t k => castTop (ef_nR m A0) k
  have K_0 : Keep h0 h0 [A0, D0, E0] := Keep.refl h0 _
  have hq1 := hq.1
  have hq2 := hq.2.1
  obtain ⟨T101, X101, e101, st101⟩ := getF X0 hx hZ hown (host := "") (Or.inl (hw _ (List.mem_of_getElem? (i := 26) rfl))) Via.refl e0 pm1 (g := (mkF m 1 #[.val (.ref A0), .unset] [(.ref A0)])) rfl rfl (hb hby d13_1)
  obtain ⟨cq102, kq102, q102a, q102b, q102c⟩ := isOf hZ e101 pm3
  obtain ⟨_, _, ⟨T102, L102, k102, n102⟩, -, X102, ⟨Lc102, hQ102, l102, y102, z102⟩, st102⟩ := X101.interfaceBack hx (xi := (⟨"java/util/Deque", "pollFirst", "()Ljava/lang/Object;"⟩ : MethodName)) (y := (⟨"java/util/ArrayDeque", "pollFirst", "()Ljava/lang/Object;"⟩ : MethodName)) hown (mvT hZ (hw _ (List.mem_of_getElem? (i := 84) rfl))) (mvT hZ (hw _ (List.mem_of_getElem? (i := 85) rfl))) (mvT hZ (hw _ (List.mem_of_getElem? (i := 86) rfl))) (mvT hZ (hw _ (List.mem_of_getElem? (i := 87) rfl))) (mvT hZ (hw _ (List.mem_of_getElem? (i := 88) rfl))) (mvT hZ (hw _ (List.mem_of_getElem? (i := 89) rfl))) (mvT hZ (hw _ (List.mem_of_getElem? (i := 90) rfl))) (mvT hZ (hw _ (List.mem_of_getElem? (i := 58) rfl))) (by decide) (backOf (W := 0) (rmpR l Z a0 hw [] D0 E0 FF HD CN h0 n0 Z0 pm3 pm4 pm5 pm6 pm7 (show own_Dq FF HD CN from hq) (show 0 < CN from hz) (show D0 ≠ E0 from nDE) g_D0 g_E0) hZ (hw _ (List.mem_of_getElem? (i := 91) rfl)) (hw _ (List.mem_of_getElem? (i := 11) rfl)) (by decide) (by decide)) q102a q102b q102c (g := (mkF m 4 #[.val (.ref A0), .unset] [(.ref D0)])) rfl (by rw [hml]; rfl) (Steps.refl _) (argsL := []) (rest := []) (lenOf pd_nR_0 rfl) rfl (by show 2 * 0 + _ ≤ _; exact Nat.le_of_eq rfl) (hb hby d13_4) (fun _ _ => ⟨rfl, e101, (by decide : 0 + 0 ≤ _), (by decide : 0 + 0 ≤ _)⟩)
  dsimp only [Pt.U, Pt.locs, Pt.cells, Pt.slots] at X102 l102 y102 z102 st102 hQ102
  subst l102 y102 z102
  obtain ⟨x102_R0, rfl, N102q, K102, p102_0, p102_1, p102_2, p102_3, p102_4, p102_5⟩ := hQ102
  have N102 := Fr.app N0 N102q
  have Z103 : n0 ≤ T102.heap.size := Nat.le_trans Z0 K102.1
  have K_103 : Keep h0 T102.heap [A0, D0, E0] := K_0.trans K102 (allS (Or.inl (List.mem_of_getElem? (i := 1) rfl)) (allS (Or.inl (List.mem_of_getElem? (i := 2) rfl)) all0))
  have c104 : Fld Z T102.heap A0 "com/example/brigid/brigid/core/WaitingLine" "line" "Ljava/util/Deque;" (.ref D0) := (pm1.keep K102 (ninS nAD (ninS nAE nin0)))
  obtain ⟨T105, X105, e105, st105⟩ := getF X102 hx hZ hown (host := "") (Or.inl (hw _ (List.mem_of_getElem? (i := 26) rfl))) Via.refl rfl c104 (g := (mkF m 12 #[.val (.ref A0), .val (.ref x102_R0)] [(.ref A0), (.ref A0)])) rfl rfl (hb hby d13_12)
  obtain ⟨cq106, kq106, q106a, q106b, q106c⟩ := isOf hZ e105 p102_0
  obtain ⟨_, _, ⟨T106, L106, k106, n106⟩, -, X106, ⟨Lc106, hQ106, l106, y106, z106⟩, st106⟩ := X105.interfaceBack hx (xi := (⟨"java/util/Deque", "size", "()I"⟩ : MethodName)) (y := (⟨"java/util/ArrayDeque", "size", "()I"⟩ : MethodName)) hown (mvT hZ (hw _ (List.mem_of_getElem? (i := 68) rfl))) (mvT hZ (hw _ (List.mem_of_getElem? (i := 69) rfl))) (mvT hZ (hw _ (List.mem_of_getElem? (i := 70) rfl))) (mvT hZ (hw _ (List.mem_of_getElem? (i := 71) rfl))) (mvT hZ (hw _ (List.mem_of_getElem? (i := 72) rfl))) (mvT hZ (hw _ (List.mem_of_getElem? (i := 73) rfl))) (mvT hZ (hw _ (List.mem_of_getElem? (i := 74) rfl))) (mvT hZ (hw _ (List.mem_of_getElem? (i := 58) rfl))) (by decide) (backOf (W := 1) (rm11 l Z a0 hw [] D0 E0 (own_up FF HD .null) ((HD + 1) % 17) (CN - 1) T102.heap n0 Z103 p102_0 p102_1 p102_2 p102_3 p102_4 (show own_Dq (own_up FF HD .null) ((HD + 1) % 17) (CN - 1) from p102_5)) hZ (hw _ (List.mem_of_getElem? (i := 75) rfl)) (hw _ (List.mem_of_getElem? (i := 11) rfl)) (by decide) (by decide)) q106a q106b q106c (g := (mkF m 15 #[.val (.ref A0), .val (.ref x102_R0)] [(.ref D0), (.ref A0)])) rfl (by rw [hml]; rfl) (Steps.refl _) (argsL := []) (rest := [(.ref A0)]) (lenOf pd_nR_1 rfl) rfl (by show 2 * 0 + _ ≤ _; exact Nat.le_of_eq rfl) (hb hby d13_15) (fun _ _ => ⟨rfl, e105, (by decide : 0 + 0 ≤ _), (by decide : 0 + 0 ≤ _)⟩)
  dsimp only [Pt.U, Pt.locs, Pt.cells, Pt.slots] at X106 l106 y106 z106 st106 hQ106
  subst l106 y106 z106
  obtain ⟨rfl, N106q, K106⟩ := hQ106
  have N106 := Fr.app N102 N106q
  have c107 : Exa Z T102.heap A0 "com/example/brigid/brigid/core/WaitingLine" := (pm0.keep K102)
  have c108 : Fld Z T102.heap A0 "com/example/brigid/brigid/core/WaitingLine" "size" "I" (.int (Int32.ofNat CN)) := (pm2.keep K102 (ninS nAD (ninS nAE nin0)))
  obtain ⟨T109, h109, X109, e109, W109, st109⟩ := putF X106 hx hZ hown (host := "") (Or.inl (hw _ (List.mem_of_getElem? (i := 33) rfl))) Via.refl K106 c108 c107 (Or.inl (hw _ (List.mem_of_getElem? (i := 34) rfl))) (hw _ (List.mem_of_getElem? (i := 1) rfl)) (ty := .int) (by decide) rfl rfl (g := (mkF m 20 #[.val (.ref A0), .val (.ref x102_R0)] [(.int (Int32.ofNat (CN - 1))), (.ref A0)])) rfl rfl (hb hby d13_20)
  have Z110 : n0 ≤ h109.size := Nat.le_trans Z103 (Nat.le_of_eq W109.size.symm)
  have K_110 : Keep h0 h109 [A0, D0, E0] := K_103.wr W109 (Or.inl (List.mem_of_getElem? (i := 0) rfl))
  have Fw109 : Fld Z h109 A0 "com/example/brigid/brigid/core/WaitingLine" "size" "I" (.int (Int32.ofNat (CN - 1))) := c108.same W109
  have N109 := Fr.snoc X109 N106 g_A0
  have pre111 : ∀ t, Steps p.tables e below (T109.setTop (mkF m 24 #[.val (.ref A0), .val (.ref x102_R0)] [(.ref x102_R0)])) t → Steps p.tables e below (s₁.setTop (entryFrame m #[(.ref A0)] 2)) t := fun t kt => pre0 t (by
      show Steps p.tables e below (s₁.setTop (mkF m 0 #[.val (.ref A0), .unset] [])) _
      refine XS.aloadN X0.here hx rfl (hb hby d13_0) rfl rfl ?_
      show Steps p.tables e below (s₁.setTop (mkF m 1 #[.val (.ref A0), .unset] [(.ref A0)])) _
      refine st101 _ ?_
      show Steps p.tables e below (T101.setTop (mkF m 4 #[.val (.ref A0), .unset] [(.ref D0)])) _
      refine st102.trans ?_
      show Steps p.tables e below (T102.setTop (mkF m 9 #[.val (.ref A0), .unset] [(.ref x102_R0)])) _
      refine XS.astoreN X102.here hx rfl (hb hby d13_9) rfl rfl (l' := #[.val (.ref A0), .val (.ref x102_R0)]) rfl ?_
      show Steps p.tables e below (T102.setTop (mkF m 10 #[.val (.ref A0), .val (.ref x102_R0)] [])) _
      refine XS.aloadN X102.here hx rfl (hb hby d13_10) rfl rfl ?_
      show Steps p.tables e below (T102.setTop (mkF m 11 #[.val (.ref A0), .val (.ref x102_R0)] [(.ref A0)])) _
      refine XS.aloadN X102.here hx rfl (hb hby d13_11) rfl rfl ?_
      show Steps p.tables e below (T102.setTop (mkF m 12 #[.val (.ref A0), .val (.ref x102_R0)] [(.ref A0), (.ref A0)])) _
      refine st105 _ ?_
      show Steps p.tables e below (T105.setTop (mkF m 15 #[.val (.ref A0), .val (.ref x102_R0)] [(.ref D0), (.ref A0)])) _
      refine st106.trans ?_
      show Steps p.tables e below (T106.setTop (mkF m 20 #[.val (.ref A0), .val (.ref x102_R0)] [(.int (Int32.ofNat (CN - 1))), (.ref A0)])) _
      refine st109 _ ?_
      show Steps p.tables e below (T109.setTop (mkF m 23 #[.val (.ref A0), .val (.ref x102_R0)] [])) _
      refine XS.aloadN X109.here hx rfl (hb hby d13_23) rfl rfl ?_
      exact kt)
  have c112 : Exa Z h109 A0 "com/example/brigid/brigid/core/WaitingLine" := (c107.wr W109)
  have c113 : Fld Z h109 A0 "com/example/brigid/brigid/core/WaitingLine" "line" "Ljava/util/Deque;" (.ref D0) := (c104.other W109 (Or.inr (slot_ne (Or.inr (hw _ (List.mem_of_getElem? (i := 27) rfl))) (Or.inl (hw _ (List.mem_of_getElem? (i := 34) rfl))) (by decide) (t := (.object "java/util/Deque")) (t' := .int) (by decide) (by decide))))
  have c114 : Fld Z h109 D0 "java/util/ArrayDeque" "tail" "I" (.int (Int32.ofNat ((((HD + 1) % 17) + (CN - 1)) % 17))) := (p102_3.other W109 (Or.inl (Ne.symm nAD)))
  have c115 : Exa Z h109 D0 "java/util/ArrayDeque" := (p102_0.wr W109)
  have c116 : Fld Z h109 D0 "java/util/ArrayDeque" "elements" "[Ljava/lang/Object;" (.ref E0) := (p102_1.other W109 (Or.inl (Ne.symm nAD)))
  have c117 : Fld Z h109 D0 "java/util/ArrayDeque" "head" "I" (.int (Int32.ofNat ((HD + 1) % 17))) := (p102_2.other W109 (Or.inl (Ne.symm nAD)))
  have c118 : own_El Z h109 E0 (own_up FF HD .null) := (p102_4.other W109 (Ne.symm nAE))
  obtain ⟨fs, hr, hrun, hended, hW, hsame⟩ := X109.leave (v := some (.ref x102_R0)) (fun h => by rw [Bd.returns] at h; cases h)
  refine ⟨_, _, pre111 _ ?_, hrun, hended, _, _, rfl, ?_, ⟨_, rfl⟩, hW, hsame.mono (by decide) (by decide)⟩
  · show Steps p.tables e below (T109.setTop (mkF m 24 #[.val (.ref A0), .val (.ref x102_R0)] [(.ref x102_R0)])) _
    exact retOut X109 hx Bd.returns rfl (Or.inr (Or.inr (Or.inr (Or.inr ⟨rfl, rfl, rfl⟩)))) (hb hby d13_24) hr
  · show QnR Z A0 D0 E0 FF HD CN h0 n0 _ T109.heap _
    rw [e109]
    exact ⟨x102_R0, rfl, N109, K_110, c112, c113, Fw109, c115, c116, c117, c114, c118, p102_5⟩
theorem d21_0 : decode jdk_65_method_130_code 0 = .ok (.iload_n 2, 1) := by decide +kernel
theorem d21_1 : decode jdk_65_method_130_code 1 = .ok (.iload_n 1, 1) := by decide +kernel
theorem d21_2 : decode jdk_65_method_130_code 2 = .ok (.isub, 1) := by decide +kernel
theorem d21_3 : decode jdk_65_method_130_code 3 = .ok (.istore 4, 2) := by decide +kernel
theorem d21_5 : decode jdk_65_method_130_code 5 = .ok (.iload 4, 2) := by decide +kernel
theorem d21_7 : decode jdk_65_method_130_code 7 = .ok (.ifCond .ge 35, 3) := by decide +kernel
theorem d21_42 : decode jdk_65_method_130_code 42 = .ok (.aload_n 3, 1) := by decide +kernel
theorem d21_43 : decode jdk_65_method_130_code 43 = .ok (.ldc 110, 2) := by decide +kernel
theorem d21_45 : decode jdk_65_method_130_code 45 = .ok (.if_acmp .ne 11, 3) := by decide +kernel
theorem d21_48 : decode jdk_65_method_130_code 48 = .ok (.iload 4, 2) := by decide +kernel
theorem d21_50 : decode jdk_65_method_130_code 50 = .ok (.anewarray 2, 3) := by decide +kernel
theorem d21_53 : decode jdk_65_method_130_code 53 = .ok (.goto 15, 3) := by decide +kernel
theorem d21_68 : decode jdk_65_method_130_code 68 = .ok (.astore 5, 2) := by decide +kernel
theorem d21_70 : decode jdk_65_method_130_code 70 = .ok (.aload_n 0, 1) := by decide +kernel
theorem d21_71 : decode jdk_65_method_130_code 71 = .ok (.iload_n 1, 1) := by decide +kernel
theorem d21_72 : decode jdk_65_method_130_code 72 = .ok (.aload 5, 2) := by decide +kernel
theorem d21_74 : decode jdk_65_method_130_code 74 = .ok (.iconst 0, 1) := by decide +kernel
theorem d21_75 : decode jdk_65_method_130_code 75 = .ok (.aload_n 0, 1) := by decide +kernel
theorem d21_76 : decode jdk_65_method_130_code 76 = .ok (.arraylength, 1) := by decide +kernel
theorem d21_77 : decode jdk_65_method_130_code 77 = .ok (.iload_n 1, 1) := by decide +kernel
theorem d21_78 : decode jdk_65_method_130_code 78 = .ok (.isub, 1) := by decide +kernel
theorem d21_79 : decode jdk_65_method_130_code 79 = .ok (.iload 4, 2) := by decide +kernel
theorem d21_81 : decode jdk_65_method_130_code 81 = .ok (.invokestatic 304, 3) := by decide +kernel
theorem d21_84 : decode jdk_65_method_130_code 84 = .ok (.invokestatic 150, 3) := by decide +kernel
theorem d21_87 : decode jdk_65_method_130_code 87 = .ok (.aload 5, 2) := by decide +kernel
theorem d21_89 : decode jdk_65_method_130_code 89 = .ok (.areturn, 1) := by decide +kernel
theorem pn_21 : plainName "java/util/Arrays" = true := by first | (simp [plainName, overriddenIn]; done) | decide +kernel
theorem pd_21_0 : parseMethodDescriptor "(II)I" = some ⟨[.int, .int], some .int⟩ := by decide +kernel
theorem ef_21 (m : MethodId) (A0 : Addr) (P2 : Int32) (MO : Addr) : entryFrame m #[(.ref A0), (.int (Int32.ofNat HD)), (.int P2), (.ref MO)] 6 = mkF m 0 #[.val (.ref A0), .val (.int (Int32.ofNat HD)), .val (.int P2), .val (.ref MO), .unset, .unset] [] := by first | (simp [entryFrame, mkF, argsToLocals, Value.category]; done) | rfl
def Q21 (Z : State) (A0 : Addr) (P2 : Int32) (MO : Addr) (FF : Nat → Value) (HD : Nat) (CN : Nat) (h0 : Heap) (n0 : Nat) (v : Option Value) (h : Heap) (L : List Loc) : Prop := ∃ R0 : Addr, (v = some (.ref R0)) ∧ (Fr n0 L) ∧ (Keep h0 h []) ∧ (h0.size ≤ R0) ∧ (own_Ob Z h R0 CN)
set_option maxRecDepth 65536 in
set_option maxHeartbeats 40000000 in
theorem rm21 (l : Launch) (Z : State) (a0 : Array Value) (hw : ∀ d ∈ tables_1, d.before a0 Z = true) (ws : List Jvm.Cond) (A0 : Addr) (P2 : Int32) (MO : Addr) (FF : Nat → Value) (HD : Nat) (CN : Nat) (h0 : Heap) (n0 : Nat) (Z0 : n0 ≤ h0.size) (pm0 : own_El Z h0 A0 FF) (hs : P2 - (Int32.ofNat HD) = Int32.ofNat CN) (h1 : HD < 17) (h2 : CN ≤ 4) (mO : own_Mi Z "[Ljava/lang/Object;" MO) :
    MetFree l (⟨"java/util/Arrays", "copyOfRange", "([Ljava/lang/Object;IILjava/lang/Class;)[Ljava/lang/Object;"⟩ : MethodName) (head1 (Jvm.Cond.code (⟨"java/util/Arrays", "copyOfRange", "([Ljava/lang/Object;IILjava/lang/Class;)[Ljava/lang/Object;"⟩ : MethodName) jdk_65_method_130_code 6 (some (.array (.object "java/lang/Object"))) :: ws) ({ frames := 1, cells := 1, slots := 4, locals := 18 } : Room)) (fun a U => a = #[(.ref A0), (.int (Int32.ofNat HD)), (.int P2), (.ref MO)] ∧ Z.Warmed39 U.vm ∧ U.heap = h0) (fun _ _ _ _ _ => True) (fun _ U o U' => ∃ v L, o = .returned v ∧ Q21 Z A0 P2 MO FF HD CN h0 n0 v U'.heap L ∧ FrameEnd U o U' L ({ frames := 1, cells := 1, slots := 4, locals := 18 } : Room).cells ({ frames := 1, cells := 1, slots := 4, locals := 18 } : Room).slots) := by
  refine MetFree.of_bodySF (plainFor_of_name pn_21) hisR ?_
  intro p e s m args below meth c s₁ Bd hml0 hP hK
  obtain ⟨rfl, hZ, hh⟩ := hP
  have hx := Bd.exec
  have hby := Bd.bytes
  have hml : c.maxLocals = 6 := hml0
  have hown : s.vm.findClass "java/util/Arrays" = some m.cls := findClass_of_methodNamed Bd.named
  have hnm := (name_of_methodNamed Bd.named Bd.method).1
  have X0 : Stand p l e ({ frames := 1, cells := 1, slots := 4, locals := 18 } : Room) s m #[(.ref A0), (.int (Int32.ofNat HD)), (.int P2), (.ref MO)] below meth c s₁ [] 0 0 := Stand.of_body Bd
  have e0 : s₁.heap = h0 := by rw [← hh, Bd.state]; rfl
  have N0 := Fr.nil n0
  have pre0 : ∀ t, Steps p.tables e below (s₁.setTop (mkF m 0 #[.val (.ref A0), .val (.int (Int32.ofNat HD)), .val (.int P2), .val (.ref MO), .unset, .unset] [])) t → Steps p.tables e below (s₁.setTop (entryFrame m #[(.ref A0), (.int (Int32.ofNat HD)), (.int P2), (.ref MO)] 6)) t := fun t k => castTop (ef_21 m A0 P2 MO) k
  have K_0 : Keep h0 h0 [] := Keep.refl h0 _
  have pre101 : ∀ t, Steps p.tables e below (s₁.setTop (mkF m 5 #[.val (.ref A0), .val (.int (Int32.ofNat HD)), .val (.int P2), .val (.ref MO), .val (.int (P2 - (Int32.ofNat HD))), .unset] [])) t → Steps p.tables e below (s₁.setTop (entryFrame m #[(.ref A0), (.int (Int32.ofNat HD)), (.int P2), (.ref MO)] 6)) t := fun t kt => pre0 t (by
      show Steps p.tables e below (s₁.setTop (mkF m 0 #[.val (.ref A0), .val (.int (Int32.ofNat HD)), .val (.int P2), .val (.ref MO), .unset, .unset] [])) _
      refine XS.iloadN X0.here hx rfl (hb hby d21_0) rfl ?_
      show Steps p.tables e below (s₁.setTop (mkF m 1 #[.val (.ref A0), .val (.int (Int32.ofNat HD)), .val (.int P2), .val (.ref MO), .unset, .unset] [(.int P2)])) _
      refine XS.iloadN X0.here hx rfl (hb hby d21_1) rfl ?_
      show Steps p.tables e below (s₁.setTop (mkF m 2 #[.val (.ref A0), .val (.int (Int32.ofNat HD)), .val (.int P2), .val (.ref MO), .unset, .unset] [(.int (Int32.ofNat HD)), (.int P2)])) _
      refine XS.isub X0.here hx rfl (hb hby d21_2) rfl ?_
      show Steps p.tables e below (s₁.setTop (mkF m 3 #[.val (.ref A0), .val (.int (Int32.ofNat HD)), .val (.int P2), .val (.ref MO), .unset, .unset] [(.int (P2 - (Int32.ofNat HD)))])) _
      refine XS.istore X0.here hx rfl (hb hby d21_3) rfl (l' := #[.val (.ref A0), .val (.int (Int32.ofNat HD)), .val (.int P2), .val (.ref MO), .val (.int (P2 - (Int32.ofNat HD))), .unset]) rfl ?_
      exact kt)
  have pre102 : ∀ t, Steps p.tables e below (s₁.setTop (mkF m 5 #[.val (.ref A0), .val (.int (Int32.ofNat HD)), .val (.int P2), .val (.ref MO), .val (.int (Int32.ofNat CN)), .unset] [])) t → Steps p.tables e below (s₁.setTop (entryFrame m #[(.ref A0), (.int (Int32.ofNat HD)), (.int P2), (.ref MO)] 6)) t := fun t kt => pre101 t (Eq.mpr (congrArg (fun zz_ => Steps p.tables e below (s₁.setTop (mkF m 5 #[.val (.ref A0), .val (.int (Int32.ofNat HD)), .val (.int P2), .val (.ref MO), .val (.int zz_), .unset] [])) t) (show (P2 - (Int32.ofNat HD)) = (Int32.ofNat CN) from hs)) kt)
  obtain ⟨T103, X103, e103, st103⟩ := own_ldc X0 hx hZ hown (hw _ (List.mem_of_getElem? (i := 136) rfl)) mO e0 (g := (mkF m 43 #[.val (.ref A0), .val (.int (Int32.ofNat HD)), .val (.int P2), .val (.ref MO), .val (.int (Int32.ofNat CN)), .unset] [(.ref MO)])) rfl (hb hby d21_43)
  obtain ⟨T104, h104, k104, X104, e104, E104, A104, EX104, O104, st104⟩ := newRE X103 hx hZ hown (hw _ (List.mem_of_getElem? (i := 137) rfl)) (hw _ (List.mem_of_getElem? (i := 23) rfl)) e103 (g := (mkF m 50 #[.val (.ref A0), .val (.int (Int32.ofNat HD)), .val (.int P2), .val (.ref MO), .val (.int (Int32.ofNat CN)), .unset] [(.int (Int32.ofNat CN))])) rfl (hb hby d21_50) rfl (own_nn (by omega)) (cap := 4) (by rw [own_cl (by omega)]; omega) (by decide) (by decide) (by decide) (ad := "[Ljava/lang/Object;") (by decide)
  obtain ⟨b104, q104⟩ : ∃ z, z = h0.size := ⟨_, rfl⟩
  rw [← q104] at A104 EX104 st104
  have ne105 : A0 ≠ b104 := Nat.ne_of_lt (Nat.lt_of_lt_of_le pm0.lt (Nat.le_of_eq q104.symm))
  have g_b104 : n0 ≤ b104 := Nat.le_trans Z0 (Nat.le_of_eq q104.symm)
  have sz_b104 : h0.size ≤ b104 := Nat.le_trans K_0.1 (Nat.le_of_eq q104.symm)
  have Z106 : n0 ≤ h104.size := Nat.le_trans Z0 E104.1
  have K_106 : Keep h0 h104 [] := K_0.ext E104
  have V104 : own_Ob Z h104 b104 CN := own_Ob.new (by omega) A104 O104
  have c108 : own_El Z h104 A0 FF := (pm0.ext E104)
  obtain ⟨cl107, Ar107, -, S107, -, -⟩ := id c108
  obtain ⟨_, _, ⟨T109, L109, k109, n109⟩, -, X109, ⟨Lc109, hQ109, l109, y109, z109⟩, st109⟩ := Jvm.LawKit.callS X104 hx (y := (⟨"java/lang/Math", "min", "(II)I"⟩ : MethodName)) hown (mvT hZ (hw _ (List.mem_of_getElem? (i := 138) rfl))) (mvT hZ (hw _ (List.mem_of_getElem? (i := 139) rfl))) (mvT hZ (hw _ (List.mem_of_getElem? (i := 140) rfl))) (mvT hZ (hw _ (List.mem_of_getElem? (i := 141) rfl))) (by decide) (backOf (W := 4) (rm22 l Z a0 hw [] ((17 : Int32) - (Int32.ofNat HD)) (Int32.ofNat CN) h104 n0 Z106 ) hZ (hw _ (List.mem_of_getElem? (i := 141) rfl)) (hw _ (List.mem_of_getElem? (i := 140) rfl)) (by decide) (by decide)) (g := (mkF m 81 #[.val (.ref A0), .val (.int (Int32.ofNat HD)), .val (.int P2), .val (.ref MO), .val (.int (Int32.ofNat CN)), .val (.ref b104)] [(.int (Int32.ofNat CN)), (.int ((17 : Int32) - (Int32.ofNat HD))), (.int (0 : Int32)), (.ref b104), (.int (Int32.ofNat HD)), (.ref A0)])) rfl (by rw [hml]; rfl) (argsL := [(.int ((17 : Int32) - (Int32.ofNat HD))), (.int (Int32.ofNat CN))]) (rest := [(.int (0 : Int32)), (.ref b104), (.int (Int32.ofNat HD)), (.ref A0)]) (lenOf pd_21_0 rfl) rfl (by show 2 * 0 + _ ≤ _; exact Nat.le_of_eq rfl) (hb hby d21_81) (fun _ _ => ⟨rfl, e104, (by decide : 1 + 0 ≤ _), (by decide : 4 + 0 ≤ _)⟩)
  dsimp only [Pt.U, Pt.locs, Pt.cells, Pt.slots] at X109 l109 y109 z109 st109 hQ109
  subst l109 y109 z109
  obtain ⟨rfl, N109q, K109⟩ := hQ109
  have N109 := Fr.app N0 N109q
  obtain ⟨T110, h110, L110, X110, e110, N110, K110, V110, st110⟩ := own_cp X109 hx hZ hown (hw _ (List.mem_of_getElem? (i := 142) rfl)) (hw _ (List.mem_of_getElem? (i := 145) rfl)) (hw _ (List.mem_of_getElem? (i := 143) rfl)) (hw _ (List.mem_of_getElem? (i := 144) rfl)) (hw _ (List.mem_of_getElem? (i := 62) rfl)) K109 (c108.ob) (V104) (i := HD) (j := 0) (k := (min (17 - HD) CN)) rfl rfl (by rw [own_s17 h1]; exact own_min (by omega) (by omega)) (by omega) (by omega) N109 g_b104 (g := (mkF m 84 #[.val (.ref A0), .val (.int (Int32.ofNat HD)), .val (.int P2), .val (.ref MO), .val (.int (Int32.ofNat CN)), .val (.ref b104)] [(.int (if (Int32.ofNat CN) < ((17 : Int32) - (Int32.ofNat HD)) then (Int32.ofNat CN) else ((17 : Int32) - (Int32.ofNat HD)))), (.int (0 : Int32)), (.ref b104), (.int (Int32.ofNat HD)), (.ref A0)])) rfl (by rw [hml]; rfl) rfl (hb hby d21_84) (by decide) (W := 0) (by show 2 * 0 + _ ≤ _; exact Nat.le_of_eq rfl) (by decide)
  have Z111 : n0 ≤ h110.size := Nat.le_trans Z106 K110.1
  have K_111 : Keep h0 h110 [] := K_106.trans K110 (allS (Or.inr sz_b104) all0)
  have pre112 : ∀ t, Steps p.tables e below (T110.setTop (mkF m 89 #[.val (.ref A0), .val (.int (Int32.ofNat HD)), .val (.int P2), .val (.ref MO), .val (.int (Int32.ofNat CN)), .val (.ref b104)] [(.ref b104)])) t → Steps p.tables e below (s₁.setTop (entryFrame m #[(.ref A0), (.int (Int32.ofNat HD)), (.int P2), (.ref MO)] 6)) t := fun t kt => pre102 t (by
      show Steps p.tables e below (s₁.setTop (mkF m 5 #[.val (.ref A0), .val (.int (Int32.ofNat HD)), .val (.int P2), .val (.ref MO), .val (.int (Int32.ofNat CN)), .unset] [])) _
      refine XS.iload X0.here hx rfl (hb hby d21_5) rfl ?_
      show Steps p.tables e below (s₁.setTop (mkF m 7 #[.val (.ref A0), .val (.int (Int32.ofNat HD)), .val (.int P2), .val (.ref MO), .val (.int (Int32.ofNat CN)), .unset] [(.int (Int32.ofNat CN))])) _
      refine XS.ifYes X0.here hx rfl (pc0 := 7) (pc' := 42) rfl (hb hby d21_7) rfl ((if0 _ _).trans (flt (show ¬ ((Int32.ofNat CN) < (0 : Int32)) from own_nn (by omega))).2.1) (by decide) (by decide) ?_
      show Steps p.tables e below (s₁.setTop (mkF m 42 #[.val (.ref A0), .val (.int (Int32.ofNat HD)), .val (.int P2), .val (.ref MO), .val (.int (Int32.ofNat CN)), .unset] [])) _
      refine XS.aloadN X0.here hx rfl (hb hby d21_42) rfl rfl ?_
      show Steps p.tables e below (s₁.setTop (mkF m 43 #[.val (.ref A0), .val (.int (Int32.ofNat HD)), .val (.int P2), .val (.ref MO), .val (.int (Int32.ofNat CN)), .unset] [(.ref MO)])) _
      refine st103 _ ?_
      show Steps p.tables e below (T103.setTop (mkF m 45 #[.val (.ref A0), .val (.int (Int32.ofNat HD)), .val (.int P2), .val (.ref MO), .val (.int (Int32.ofNat CN)), .unset] [(.ref MO), (.ref MO)])) _
      refine Jvm.RoadKit.acmp (g := (mkF m 45 #[.val (.ref A0), .val (.int (Int32.ofNat HD)), .val (.int P2), .val (.ref MO), .val (.int (Int32.ofNat CN)), .unset] [(.ref MO), (.ref MO)])) X103 hx rfl rfl rfl (pc0 := 45) (pc' := 48) (same := true) rfl (hb hby d21_45) rfl (decide_eq_true rfl) (by decide) (by decide) ?_
      show Steps p.tables e below (T103.setTop (mkF m 48 #[.val (.ref A0), .val (.int (Int32.ofNat HD)), .val (.int P2), .val (.ref MO), .val (.int (Int32.ofNat CN)), .unset] [])) _
      refine XS.iload X103.here hx rfl (hb hby d21_48) rfl ?_
      show Steps p.tables e below (T103.setTop (mkF m 50 #[.val (.ref A0), .val (.int (Int32.ofNat HD)), .val (.int P2), .val (.ref MO), .val (.int (Int32.ofNat CN)), .unset] [(.int (Int32.ofNat CN))])) _
      refine st104 _ ?_
      show Steps p.tables e below (T104.setTop (mkF m 53 #[.val (.ref A0), .val (.int (Int32.ofNat HD)), .val (.int P2), .val (.ref MO), .val (.int (Int32.ofNat CN)), .unset] [(.ref b104)])) _
      refine XS.goto X104.here hx rfl (pc0 := 53) (pc' := 68) rfl (hb hby d21_53) (by decide) (by decide) ?_
      show Steps p.tables e below (T104.setTop (mkF m 68 #[.val (.ref A0), .val (.int (Int32.ofNat HD)), .val (.int P2), .val (.ref MO), .val (.int (Int32.ofNat CN)), .unset] [(.ref b104)])) _
      refine XS.astore X104.here hx rfl (hb hby d21_68) rfl rfl (l' := #[.val (.ref A0), .val (.int (Int32.ofNat HD)), .val (.int P2), .val (.ref MO), .val (.int (Int32.ofNat CN)), .val (.ref b104)]) rfl ?_
      show Steps p.tables e below (T104.setTop (mkF m 70 #[.val (.ref A0), .val (.int (Int32.ofNat HD)), .val (.int P2), .val (.ref MO), .val (.int (Int32.ofNat CN)), .val (.ref b104)] [])) _
      refine XS.aloadN X104.here hx rfl (hb hby d21_70) rfl rfl ?_
      show Steps p.tables e below (T104.setTop (mkF m 71 #[.val (.ref A0), .val (.int (Int32.ofNat HD)), .val (.int P2), .val (.ref MO), .val (.int (Int32.ofNat CN)), .val (.ref b104)] [(.ref A0)])) _
      refine XS.iloadN X104.here hx rfl (hb hby d21_71) rfl ?_
      show Steps p.tables e below (T104.setTop (mkF m 72 #[.val (.ref A0), .val (.int (Int32.ofNat HD)), .val (.int P2), .val (.ref MO), .val (.int (Int32.ofNat CN)), .val (.ref b104)] [(.int (Int32.ofNat HD)), (.ref A0)])) _
      refine XS.aload X104.here hx rfl (hb hby d21_72) rfl rfl ?_
      show Steps p.tables e below (T104.setTop (mkF m 74 #[.val (.ref A0), .val (.int (Int32.ofNat HD)), .val (.int P2), .val (.ref MO), .val (.int (Int32.ofNat CN)), .val (.ref b104)] [(.ref b104), (.int (Int32.ofNat HD)), (.ref A0)])) _
      refine XS.iconst X104.here hx rfl (hb hby d21_74) ?_
      show Steps p.tables e below (T104.setTop (mkF m 75 #[.val (.ref A0), .val (.int (Int32.ofNat HD)), .val (.int P2), .val (.ref MO), .val (.int (Int32.ofNat CN)), .val (.ref b104)] [(.int (0 : Int32)), (.ref b104), (.int (Int32.ofNat HD)), (.ref A0)])) _
      refine XS.aloadN X104.here hx rfl (hb hby d21_75) rfl rfl ?_
      show Steps p.tables e below (T104.setTop (mkF m 76 #[.val (.ref A0), .val (.int (Int32.ofNat HD)), .val (.int P2), .val (.ref MO), .val (.int (Int32.ofNat CN)), .val (.ref b104)] [(.ref A0), (.int (0 : Int32)), (.ref b104), (.int (Int32.ofNat HD)), (.ref A0)])) _
      refine X104.arraylength hx (by rw [e104]; exact Ar107.1) (State.isArrayOf_alike hZ.alike Ar107.2.1) (g := (mkF m 76 #[.val (.ref A0), .val (.int (Int32.ofNat HD)), .val (.int P2), .val (.ref MO), .val (.int (Int32.ofNat CN)), .val (.ref b104)] [(.ref A0), (.int (0 : Int32)), (.ref b104), (.int (Int32.ofNat HD)), (.ref A0)])) rfl rfl (hb hby d21_76) _ ?_
      rw [show cl107.slots.size.toInt32 = (17 : Int32) from by rw [S107] <;> rfl]
      show Steps p.tables e below (T104.setTop (mkF m 77 #[.val (.ref A0), .val (.int (Int32.ofNat HD)), .val (.int P2), .val (.ref MO), .val (.int (Int32.ofNat CN)), .val (.ref b104)] [(.int (17 : Int32)), (.int (0 : Int32)), (.ref b104), (.int (Int32.ofNat HD)), (.ref A0)])) _
      refine XS.iloadN X104.here hx rfl (hb hby d21_77) rfl ?_
      show Steps p.tables e below (T104.setTop (mkF m 78 #[.val (.ref A0), .val (.int (Int32.ofNat HD)), .val (.int P2), .val (.ref MO), .val (.int (Int32.ofNat CN)), .val (.ref b104)] [(.int (Int32.ofNat HD)), (.int (17 : Int32)), (.int (0 : Int32)), (.ref b104), (.int (Int32.ofNat HD)), (.ref A0)])) _
      refine XS.isub X104.here hx rfl (hb hby d21_78) rfl ?_
      show Steps p.tables e below (T104.setTop (mkF m 79 #[.val (.ref A0), .val (.int (Int32.ofNat HD)), .val (.int P2), .val (.ref MO), .val (.int (Int32.ofNat CN)), .val (.ref b104)] [(.int ((17 : Int32) - (Int32.ofNat HD))), (.int (0 : Int32)), (.ref b104), (.int (Int32.ofNat HD)), (.ref A0)])) _
      refine XS.iload X104.here hx rfl (hb hby d21_79) rfl ?_
      show Steps p.tables e below (T104.setTop (mkF m 81 #[.val (.ref A0), .val (.int (Int32.ofNat HD)), .val (.int P2), .val (.ref MO), .val (.int (Int32.ofNat CN)), .val (.ref b104)] [(.int (Int32.ofNat CN)), (.int ((17 : Int32) - (Int32.ofNat HD))), (.int (0 : Int32)), (.ref b104), (.int (Int32.ofNat HD)), (.ref A0)])) _
      refine st109 _ ?_
      show Steps p.tables e below (T109.setTop (mkF m 84 #[.val (.ref A0), .val (.int (Int32.ofNat HD)), .val (.int P2), .val (.ref MO), .val (.int (Int32.ofNat CN)), .val (.ref b104)] [(.int (if (Int32.ofNat CN) < ((17 : Int32) - (Int32.ofNat HD)) then (Int32.ofNat CN) else ((17 : Int32) - (Int32.ofNat HD)))), (.int (0 : Int32)), (.ref b104), (.int (Int32.ofNat HD)), (.ref A0)])) _
      refine st110 _ ?_
      show Steps p.tables e below (T110.setTop (mkF m 87 #[.val (.ref A0), .val (.int (Int32.ofNat HD)), .val (.int P2), .val (.ref MO), .val (.int (Int32.ofNat CN)), .val (.ref b104)] [])) _
      refine XS.aload X110.here hx rfl (hb hby d21_87) rfl rfl ?_
      exact kt)
  obtain ⟨fs, hr, hrun, hended, hW, hsame⟩ := X110.leave (v := some (.ref b104)) (fun h => by rw [Bd.returns] at h; cases h)
  refine ⟨_, _, pre112 _ ?_, hrun, hended, _, _, rfl, ?_, ⟨_, rfl⟩, hW, hsame.mono (by decide) (by decide)⟩
  · show Steps p.tables e below (T110.setTop (mkF m 89 #[.val (.ref A0), .val (.int (Int32.ofNat HD)), .val (.int P2), .val (.ref MO), .val (.int (Int32.ofNat CN)), .val (.ref b104)] [(.ref b104)])) _
    exact retOut X110 hx Bd.returns rfl (Or.inr (Or.inr (Or.inr (Or.inr ⟨rfl, rfl, rfl⟩)))) (hb hby d21_89) hr
  · show Q21 Z A0 P2 MO FF HD CN h0 n0 _ T110.heap _
    rw [e110]
    exact ⟨b104, rfl, N110, K_111, sz_b104, V110⟩
theorem d27_0 : decode jdk_65_method_120_code 0 = .ok (.aload_n 2, 1) := by decide +kernel
theorem d27_1 : decode jdk_65_method_120_code 1 = .ok (.ldc 110, 2) := by decide +kernel
theorem d27_3 : decode jdk_65_method_120_code 3 = .ok (.if_acmp .ne 10, 3) := by decide +kernel
theorem d27_6 : decode jdk_65_method_120_code 6 = .ok (.iload_n 1, 1) := by decide +kernel
theorem d27_7 : decode jdk_65_method_120_code 7 = .ok (.anewarray 2, 3) := by decide +kernel
theorem d27_10 : decode jdk_65_method_120_code 10 = .ok (.goto 14, 3) := by decide +kernel
theorem d27_24 : decode jdk_65_method_120_code 24 = .ok (.astore_n 3, 1) := by decide +kernel
theorem d27_25 : decode jdk_65_method_120_code 25 = .ok (.aload_n 0, 1) := by decide +kernel
theorem d27_26 : decode jdk_65_method_120_code 26 = .ok (.iconst 0, 1) := by decide +kernel
theorem d27_27 : decode jdk_65_method_120_code 27 = .ok (.aload_n 3, 1) := by decide +kernel
theorem d27_28 : decode jdk_65_method_120_code 28 = .ok (.iconst 0, 1) := by decide +kernel
theorem d27_29 : decode jdk_65_method_120_code 29 = .ok (.aload_n 0, 1) := by decide +kernel
theorem d27_30 : decode jdk_65_method_120_code 30 = .ok (.arraylength, 1) := by decide +kernel
theorem d27_31 : decode jdk_65_method_120_code 31 = .ok (.iload_n 1, 1) := by decide +kernel
theorem d27_32 : decode jdk_65_method_120_code 32 = .ok (.invokestatic 304, 3) := by decide +kernel
theorem d27_35 : decode jdk_65_method_120_code 35 = .ok (.invokestatic 150, 3) := by decide +kernel
theorem d27_38 : decode jdk_65_method_120_code 38 = .ok (.aload_n 3, 1) := by decide +kernel
theorem d27_39 : decode jdk_65_method_120_code 39 = .ok (.areturn, 1) := by decide +kernel
theorem pn_27 : plainName "java/util/Arrays" = true := by first | (simp [plainName, overriddenIn]; done) | decide +kernel
theorem pd_27_0 : parseMethodDescriptor "(II)I" = some ⟨[.int, .int], some .int⟩ := by decide +kernel
theorem ef_27 (m : MethodId) (A0 : Addr) (MO : Addr) : entryFrame m #[(.ref A0), (.int (Int32.ofNat CN)), (.ref MO)] 4 = mkF m 0 #[.val (.ref A0), .val (.int (Int32.ofNat CN)), .val (.ref MO), .unset] [] := by first | (simp [entryFrame, mkF, argsToLocals, Value.category]; done) | rfl
def Q27 (Z : State) (A0 : Addr) (MO : Addr) (CN : Nat) (h0 : Heap) (n0 : Nat) (v : Option Value) (h : Heap) (L : List Loc) : Prop := ∃ R0 : Addr, (v = some (.ref R0)) ∧ (Fr n0 L) ∧ (Keep h0 h []) ∧ (h0.size ≤ R0) ∧ (own_Ob Z h R0 CN)
set_option maxRecDepth 65536 in
set_option maxHeartbeats 40000000 in
theorem rm27 (l : Launch) (Z : State) (a0 : Array Value) (hw : ∀ d ∈ tables_1, d.before a0 Z = true) (ws : List Jvm.Cond) (A0 : Addr) (MO : Addr) (CN : Nat) (h0 : Heap) (n0 : Nat) (Z0 : n0 ≤ h0.size) (pm0 : own_Ob Z h0 A0 CN) (h2 : CN ≤ 4) (mO : own_Mi Z "[Ljava/lang/Object;" MO) :
    MetFree l (⟨"java/util/Arrays", "copyOf", "([Ljava/lang/Object;ILjava/lang/Class;)[Ljava/lang/Object;"⟩ : MethodName) (head1 (Jvm.Cond.code (⟨"java/util/Arrays", "copyOf", "([Ljava/lang/Object;ILjava/lang/Class;)[Ljava/lang/Object;"⟩ : MethodName) jdk_65_method_120_code 4 (some (.array (.object "java/lang/Object"))) :: ws) ({ frames := 1, cells := 1, slots := 4, locals := 18 } : Room)) (fun a U => a = #[(.ref A0), (.int (Int32.ofNat CN)), (.ref MO)] ∧ Z.Warmed39 U.vm ∧ U.heap = h0) (fun _ _ _ _ _ => True) (fun _ U o U' => ∃ v L, o = .returned v ∧ Q27 Z A0 MO CN h0 n0 v U'.heap L ∧ FrameEnd U o U' L ({ frames := 1, cells := 1, slots := 4, locals := 18 } : Room).cells ({ frames := 1, cells := 1, slots := 4, locals := 18 } : Room).slots) := by
  refine MetFree.of_bodySF (plainFor_of_name pn_27) hisR ?_
  intro p e s m args below meth c s₁ Bd hml0 hP hK
  obtain ⟨rfl, hZ, hh⟩ := hP
  have hx := Bd.exec
  have hby := Bd.bytes
  have hml : c.maxLocals = 4 := hml0
  have hown : s.vm.findClass "java/util/Arrays" = some m.cls := findClass_of_methodNamed Bd.named
  have hnm := (name_of_methodNamed Bd.named Bd.method).1
  have X0 : Stand p l e ({ frames := 1, cells := 1, slots := 4, locals := 18 } : Room) s m #[(.ref A0), (.int (Int32.ofNat CN)), (.ref MO)] below meth c s₁ [] 0 0 := Stand.of_body Bd
  have e0 : s₁.heap = h0 := by rw [← hh, Bd.state]; rfl
  have N0 := Fr.nil n0
  have pre0 : ∀ t, Steps p.tables e below (s₁.setTop (mkF m 0 #[.val (.ref A0), .val (.int (Int32.ofNat CN)), .val (.ref MO), .unset] [])) t → Steps p.tables e below (s₁.setTop (entryFrame m #[(.ref A0), (.int (Int32.ofNat CN)), (.ref MO)] 4)) t := fun t k => castTop (ef_27 m A0 MO) k
  have K_0 : Keep h0 h0 [] := Keep.refl h0 _
  obtain ⟨T101, X101, e101, st101⟩ := own_ldc X0 hx hZ hown (hw _ (List.mem_of_getElem? (i := 136) rfl)) mO e0 (g := (mkF m 1 #[.val (.ref A0), .val (.int (Int32.ofNat CN)), .val (.ref MO), .unset] [(.ref MO)])) rfl (hb hby d27_1)
  obtain ⟨T102, h102, k102, X102, e102, E102, A102, EX102, O102, st102⟩ := newRE X101 hx hZ hown (hw _ (List.mem_of_getElem? (i := 137) rfl)) (hw _ (List.mem_of_getElem? (i := 23) rfl)) e101 (g := (mkF m 7 #[.val (.ref A0), .val (.int (Int32.ofNat CN)), .val (.ref MO), .unset] [(.int (Int32.ofNat CN))])) rfl (hb hby d27_7) rfl (own_nn (by omega)) (cap := 4) (by rw [own_cl (by omega)]; omega) (by decide) (by decide) (by decide) (ad := "[Ljava/lang/Object;") (by decide)
  obtain ⟨b102, q102⟩ : ∃ z, z = h0.size := ⟨_, rfl⟩
  rw [← q102] at A102 EX102 st102
  have ne103 : A0 ≠ b102 := Nat.ne_of_lt (Nat.lt_of_lt_of_le pm0.lt (Nat.le_of_eq q102.symm))
  have g_b102 : n0 ≤ b102 := Nat.le_trans Z0 (Nat.le_of_eq q102.symm)
  have sz_b102 : h0.size ≤ b102 := Nat.le_trans K_0.1 (Nat.le_of_eq q102.symm)
  have Z104 : n0 ≤ h102.size := Nat.le_trans Z0 E102.1
  have K_104 : Keep h0 h102 [] := K_0.ext E102
  have V102 : own_Ob Z h102 b102 CN := own_Ob.new (by omega) A102 O102
  have c106 : own_Ob Z h102 A0 CN := (pm0.ext E102)
  obtain ⟨-, cl105, -, Ar105, -, S105, -, -⟩ := id c106
  obtain ⟨_, _, ⟨T107, L107, k107, n107⟩, -, X107, ⟨Lc107, hQ107, l107, y107, z107⟩, st107⟩ := Jvm.LawKit.callS X102 hx (y := (⟨"java/lang/Math", "min", "(II)I"⟩ : MethodName)) hown (mvT hZ (hw _ (List.mem_of_getElem? (i := 138) rfl))) (mvT hZ (hw _ (List.mem_of_getElem? (i := 139) rfl))) (mvT hZ (hw _ (List.mem_of_getElem? (i := 140) rfl))) (mvT hZ (hw _ (List.mem_of_getElem? (i := 141) rfl))) (by decide) (backOf (W := 4) (rm22 l Z a0 hw [] (Int32.ofNat CN) (Int32.ofNat CN) h102 n0 Z104 ) hZ (hw _ (List.mem_of_getElem? (i := 141) rfl)) (hw _ (List.mem_of_getElem? (i := 140) rfl)) (by decide) (by decide)) (g := (mkF m 32 #[.val (.ref A0), .val (.int (Int32.ofNat CN)), .val (.ref MO), .val (.ref b102)] [(.int (Int32.ofNat CN)), (.int (Int32.ofNat CN)), (.int (0 : Int32)), (.ref b102), (.int (0 : Int32)), (.ref A0)])) rfl (by rw [hml]; rfl) (argsL := [(.int (Int32.ofNat CN)), (.int (Int32.ofNat CN))]) (rest := [(.int (0 : Int32)), (.ref b102), (.int (0 : Int32)), (.ref A0)]) (lenOf pd_27_0 rfl) rfl (by show 2 * 0 + _ ≤ _; exact Nat.le_of_eq rfl) (hb hby d27_32) (fun _ _ => ⟨rfl, e102, (by decide : 1 + 0 ≤ _), (by decide : 4 + 0 ≤ _)⟩)
  dsimp only [Pt.U, Pt.locs, Pt.cells, Pt.slots] at X107 l107 y107 z107 st107 hQ107
  subst l107 y107 z107
  obtain ⟨rfl, N107q, K107⟩ := hQ107
  have N107 := Fr.app N0 N107q
  obtain ⟨T108, h108, L108, X108, e108, N108, K108, V108, st108⟩ := own_cp X107 hx hZ hown (hw _ (List.mem_of_getElem? (i := 142) rfl)) (hw _ (List.mem_of_getElem? (i := 145) rfl)) (hw _ (List.mem_of_getElem? (i := 143) rfl)) (hw _ (List.mem_of_getElem? (i := 144) rfl)) (hw _ (List.mem_of_getElem? (i := 62) rfl)) K107 (c106) (V102) (i := 0) (j := 0) (k := (min CN CN)) rfl rfl (own_min (by omega) (by omega)) (by omega) (by omega) N107 g_b102 (g := (mkF m 35 #[.val (.ref A0), .val (.int (Int32.ofNat CN)), .val (.ref MO), .val (.ref b102)] [(.int (if (Int32.ofNat CN) < (Int32.ofNat CN) then (Int32.ofNat CN) else (Int32.ofNat CN))), (.int (0 : Int32)), (.ref b102), (.int (0 : Int32)), (.ref A0)])) rfl (by rw [hml]; rfl) rfl (hb hby d27_35) (by decide) (W := 0) (by show 2 * 0 + _ ≤ _; exact Nat.le_of_eq rfl) (by decide)
  have Z109 : n0 ≤ h108.size := Nat.le_trans Z104 K108.1
  have K_109 : Keep h0 h108 [] := K_104.trans K108 (allS (Or.inr sz_b102) all0)
  have pre110 : ∀ t, Steps p.tables e below (T108.setTop (mkF m 39 #[.val (.ref A0), .val (.int (Int32.ofNat CN)), .val (.ref MO), .val (.ref b102)] [(.ref b102)])) t → Steps p.tables e below (s₁.setTop (entryFrame m #[(.ref A0), (.int (Int32.ofNat CN)), (.ref MO)] 4)) t := fun t kt => pre0 t (by
      show Steps p.tables e below (s₁.setTop (mkF m 0 #[.val (.ref A0), .val (.int (Int32.ofNat CN)), .val (.ref MO), .unset] [])) _
      refine XS.aloadN X0.here hx rfl (hb hby d27_0) rfl rfl ?_
      show Steps p.tables e below (s₁.setTop (mkF m 1 #[.val (.ref A0), .val (.int (Int32.ofNat CN)), .val (.ref MO), .unset] [(.ref MO)])) _
      refine st101 _ ?_
      show Steps p.tables e below (T101.setTop (mkF m 3 #[.val (.ref A0), .val (.int (Int32.ofNat CN)), .val (.ref MO), .unset] [(.ref MO), (.ref MO)])) _
      refine Jvm.RoadKit.acmp (g := (mkF m 3 #[.val (.ref A0), .val (.int (Int32.ofNat CN)), .val (.ref MO), .unset] [(.ref MO), (.ref MO)])) X101 hx rfl rfl rfl (pc0 := 3) (pc' := 6) (same := true) rfl (hb hby d27_3) rfl (decide_eq_true rfl) (by decide) (by decide) ?_
      show Steps p.tables e below (T101.setTop (mkF m 6 #[.val (.ref A0), .val (.int (Int32.ofNat CN)), .val (.ref MO), .unset] [])) _
      refine XS.iloadN X101.here hx rfl (hb hby d27_6) rfl ?_
      show Steps p.tables e below (T101.setTop (mkF m 7 #[.val (.ref A0), .val (.int (Int32.ofNat CN)), .val (.ref MO), .unset] [(.int (Int32.ofNat CN))])) _
      refine st102 _ ?_
      show Steps p.tables e below (T102.setTop (mkF m 10 #[.val (.ref A0), .val (.int (Int32.ofNat CN)), .val (.ref MO), .unset] [(.ref b102)])) _
      refine XS.goto X102.here hx rfl (pc0 := 10) (pc' := 24) rfl (hb hby d27_10) (by decide) (by decide) ?_
      show Steps p.tables e below (T102.setTop (mkF m 24 #[.val (.ref A0), .val (.int (Int32.ofNat CN)), .val (.ref MO), .unset] [(.ref b102)])) _
      refine XS.astoreN X102.here hx rfl (hb hby d27_24) rfl rfl (l' := #[.val (.ref A0), .val (.int (Int32.ofNat CN)), .val (.ref MO), .val (.ref b102)]) rfl ?_
      show Steps p.tables e below (T102.setTop (mkF m 25 #[.val (.ref A0), .val (.int (Int32.ofNat CN)), .val (.ref MO), .val (.ref b102)] [])) _
      refine XS.aloadN X102.here hx rfl (hb hby d27_25) rfl rfl ?_
      show Steps p.tables e below (T102.setTop (mkF m 26 #[.val (.ref A0), .val (.int (Int32.ofNat CN)), .val (.ref MO), .val (.ref b102)] [(.ref A0)])) _
      refine XS.iconst X102.here hx rfl (hb hby d27_26) ?_
      show Steps p.tables e below (T102.setTop (mkF m 27 #[.val (.ref A0), .val (.int (Int32.ofNat CN)), .val (.ref MO), .val (.ref b102)] [(.int (0 : Int32)), (.ref A0)])) _
      refine XS.aloadN X102.here hx rfl (hb hby d27_27) rfl rfl ?_
      show Steps p.tables e below (T102.setTop (mkF m 28 #[.val (.ref A0), .val (.int (Int32.ofNat CN)), .val (.ref MO), .val (.ref b102)] [(.ref b102), (.int (0 : Int32)), (.ref A0)])) _
      refine XS.iconst X102.here hx rfl (hb hby d27_28) ?_
      show Steps p.tables e below (T102.setTop (mkF m 29 #[.val (.ref A0), .val (.int (Int32.ofNat CN)), .val (.ref MO), .val (.ref b102)] [(.int (0 : Int32)), (.ref b102), (.int (0 : Int32)), (.ref A0)])) _
      refine XS.aloadN X102.here hx rfl (hb hby d27_29) rfl rfl ?_
      show Steps p.tables e below (T102.setTop (mkF m 30 #[.val (.ref A0), .val (.int (Int32.ofNat CN)), .val (.ref MO), .val (.ref b102)] [(.ref A0), (.int (0 : Int32)), (.ref b102), (.int (0 : Int32)), (.ref A0)])) _
      refine X102.arraylength hx (by rw [e102]; exact Ar105.1) (State.isArrayOf_alike hZ.alike Ar105.2.1) (g := (mkF m 30 #[.val (.ref A0), .val (.int (Int32.ofNat CN)), .val (.ref MO), .val (.ref b102)] [(.ref A0), (.int (0 : Int32)), (.ref b102), (.int (0 : Int32)), (.ref A0)])) rfl rfl (hb hby d27_30) _ ?_
      rw [show cl105.slots.size.toInt32 = (Int32.ofNat CN) from by rw [S105] <;> rfl]
      show Steps p.tables e below (T102.setTop (mkF m 31 #[.val (.ref A0), .val (.int (Int32.ofNat CN)), .val (.ref MO), .val (.ref b102)] [(.int (Int32.ofNat CN)), (.int (0 : Int32)), (.ref b102), (.int (0 : Int32)), (.ref A0)])) _
      refine XS.iloadN X102.here hx rfl (hb hby d27_31) rfl ?_
      show Steps p.tables e below (T102.setTop (mkF m 32 #[.val (.ref A0), .val (.int (Int32.ofNat CN)), .val (.ref MO), .val (.ref b102)] [(.int (Int32.ofNat CN)), (.int (Int32.ofNat CN)), (.int (0 : Int32)), (.ref b102), (.int (0 : Int32)), (.ref A0)])) _
      refine st107 _ ?_
      show Steps p.tables e below (T107.setTop (mkF m 35 #[.val (.ref A0), .val (.int (Int32.ofNat CN)), .val (.ref MO), .val (.ref b102)] [(.int (if (Int32.ofNat CN) < (Int32.ofNat CN) then (Int32.ofNat CN) else (Int32.ofNat CN))), (.int (0 : Int32)), (.ref b102), (.int (0 : Int32)), (.ref A0)])) _
      refine st108 _ ?_
      show Steps p.tables e below (T108.setTop (mkF m 38 #[.val (.ref A0), .val (.int (Int32.ofNat CN)), .val (.ref MO), .val (.ref b102)] [])) _
      refine XS.aloadN X108.here hx rfl (hb hby d27_38) rfl rfl ?_
      exact kt)
  obtain ⟨fs, hr, hrun, hended, hW, hsame⟩ := X108.leave (v := some (.ref b102)) (fun h => by rw [Bd.returns] at h; cases h)
  refine ⟨_, _, pre110 _ ?_, hrun, hended, _, _, rfl, ?_, ⟨_, rfl⟩, hW, hsame.mono (by decide) (by decide)⟩
  · show Steps p.tables e below (T108.setTop (mkF m 39 #[.val (.ref A0), .val (.int (Int32.ofNat CN)), .val (.ref MO), .val (.ref b102)] [(.ref b102)])) _
    exact retOut X108 hx Bd.returns rfl (Or.inr (Or.inr (Or.inr (Or.inr ⟨rfl, rfl, rfl⟩)))) (hb hby d27_39) hr
  · show Q27 Z A0 MO CN h0 n0 _ T108.heap _
    rw [e108]
    exact ⟨b102, rfl, N108, K_109, sz_b102, V108⟩
theorem d20_0 : decode jdk_21_method_56_code 0 = .ok (.aload_n 0, 1) := by decide +kernel
theorem d20_1 : decode jdk_21_method_56_code 1 = .ok (.getfield 3, 3) := by decide +kernel
theorem d20_4 : decode jdk_21_method_56_code 4 = .ok (.astore_n 2, 1) := by decide +kernel
theorem d20_5 : decode jdk_21_method_56_code 5 = .ok (.aload_n 0, 1) := by decide +kernel
theorem d20_6 : decode jdk_21_method_56_code 6 = .ok (.getfield 24, 3) := by decide +kernel
theorem d20_9 : decode jdk_21_method_56_code 9 = .ok (.istore 4, 2) := by decide +kernel
theorem d20_11 : decode jdk_21_method_56_code 11 = .ok (.aload_n 0, 1) := by decide +kernel
theorem d20_12 : decode jdk_21_method_56_code 12 = .ok (.getfield 20, 3) := by decide +kernel
theorem d20_15 : decode jdk_21_method_56_code 15 = .ok (.istore 5, 2) := by decide +kernel
theorem d20_17 : decode jdk_21_method_56_code 17 = .ok (.iload 5, 2) := by decide +kernel
theorem d20_19 : decode jdk_21_method_56_code 19 = .ok (.iload 4, 2) := by decide +kernel
theorem d20_21 : decode jdk_21_method_56_code 21 = .ok (.iload 5, 2) := by decide +kernel
theorem d20_23 : decode jdk_21_method_56_code 23 = .ok (.if_icmp .gt 7, 3) := by decide +kernel
theorem d20_26 : decode jdk_21_method_56_code 26 = .ok (.iconst 0, 1) := by decide +kernel
theorem d20_27 : decode jdk_21_method_56_code 27 = .ok (.goto 5, 3) := by decide +kernel
theorem d20_30 : decode jdk_21_method_56_code 30 = .ok (.aload_n 2, 1) := by decide +kernel
theorem d20_31 : decode jdk_21_method_56_code 31 = .ok (.arraylength, 1) := by decide +kernel
theorem d20_32 : decode jdk_21_method_56_code 32 = .ok (.iadd, 1) := by decide +kernel
theorem d20_33 : decode jdk_21_method_56_code 33 = .ok (.dup, 1) := by decide +kernel
theorem d20_34 : decode jdk_21_method_56_code 34 = .ok (.istore 6, 2) := by decide +kernel
theorem d20_36 : decode jdk_21_method_56_code 36 = .ok (.ifCond .lt 16, 3) := by decide +kernel
theorem d20_39 : decode jdk_21_method_56_code 39 = .ok (.aload_n 2, 1) := by decide +kernel
theorem d20_40 : decode jdk_21_method_56_code 40 = .ok (.iload 4, 2) := by decide +kernel
theorem d20_42 : decode jdk_21_method_56_code 42 = .ok (.iload 6, 2) := by decide +kernel
theorem d20_44 : decode jdk_21_method_56_code 44 = .ok (.aload_n 1, 1) := by decide +kernel
theorem d20_45 : decode jdk_21_method_56_code 45 = .ok (.invokestatic 193, 3) := by decide +kernel
theorem d20_48 : decode jdk_21_method_56_code 48 = .ok (.astore_n 3, 1) := by decide +kernel
theorem d20_49 : decode jdk_21_method_56_code 49 = .ok (.goto 28, 3) := by decide +kernel
theorem d20_77 : decode jdk_21_method_56_code 77 = .ok (.iload 6, 2) := by decide +kernel
theorem d20_79 : decode jdk_21_method_56_code 79 = .ok (.iload 5, 2) := by decide +kernel
theorem d20_81 : decode jdk_21_method_56_code 81 = .ok (.if_icmp .eq 16, 3) := by decide +kernel
theorem d20_84 : decode jdk_21_method_56_code 84 = .ok (.aload_n 2, 1) := by decide +kernel
theorem d20_85 : decode jdk_21_method_56_code 85 = .ok (.iconst 0, 1) := by decide +kernel
theorem d20_86 : decode jdk_21_method_56_code 86 = .ok (.aload_n 3, 1) := by decide +kernel
theorem d20_87 : decode jdk_21_method_56_code 87 = .ok (.aload_n 2, 1) := by decide +kernel
theorem d20_88 : decode jdk_21_method_56_code 88 = .ok (.arraylength, 1) := by decide +kernel
theorem d20_89 : decode jdk_21_method_56_code 89 = .ok (.iload 4, 2) := by decide +kernel
theorem d20_91 : decode jdk_21_method_56_code 91 = .ok (.isub, 1) := by decide +kernel
theorem d20_92 : decode jdk_21_method_56_code 92 = .ok (.iload 5, 2) := by decide +kernel
theorem d20_94 : decode jdk_21_method_56_code 94 = .ok (.invokestatic 27, 3) := by decide +kernel
theorem d20_97 : decode jdk_21_method_56_code 97 = .ok (.aload_n 3, 1) := by decide +kernel
theorem d20_98 : decode jdk_21_method_56_code 98 = .ok (.areturn, 1) := by decide +kernel
theorem pn_20 : plainName "java/util/ArrayDeque" = true := by first | (simp [plainName, overriddenIn]; done) | decide +kernel
theorem pd_20_0 : parseMethodDescriptor "([Ljava/lang/Object;IILjava/lang/Class;)[Ljava/lang/Object;" = some ⟨[(.array (.object "java/lang/Object")), .int, .int, (.object "java/lang/Class")], some (.array (.object "java/lang/Object"))⟩ := by decide +kernel
theorem ef_20 (m : MethodId) (A0 : Addr) (MO : Addr) : entryFrame m #[(.ref A0), (.ref MO)] 7 = mkF m 0 #[.val (.ref A0), .val (.ref MO), .unset, .unset, .unset, .unset, .unset] [] := by first | (simp [entryFrame, mkF, argsToLocals, Value.category]; done) | rfl
def Q20 (Z : State) (A0 : Addr) (MO : Addr) (E0 : Addr) (FF : Nat → Value) (HD : Nat) (CN : Nat) (h0 : Heap) (n0 : Nat) (v : Option Value) (h : Heap) (L : List Loc) : Prop := ∃ R0 : Addr, (v = some (.ref R0)) ∧ (Fr n0 L) ∧ (Keep h0 h []) ∧ (h0.size ≤ R0) ∧ (own_Ob Z h R0 CN)
set_option maxRecDepth 65536 in
set_option maxHeartbeats 40000000 in
theorem rm20 (l : Launch) (Z : State) (a0 : Array Value) (hw : ∀ d ∈ tables_1, d.before a0 Z = true) (ws : List Jvm.Cond) (A0 : Addr) (MO : Addr) (E0 : Addr) (FF : Nat → Value) (HD : Nat) (CN : Nat) (h0 : Heap) (n0 : Nat) (Z0 : n0 ≤ h0.size) (pm0 : Exa Z h0 A0 "java/util/ArrayDeque") (pm1 : Fld Z h0 A0 "java/util/ArrayDeque" "elements" "[Ljava/lang/Object;" (.ref E0)) (pm2 : Fld Z h0 A0 "java/util/ArrayDeque" "head" "I" (.int (Int32.ofNat HD))) (pm3 : Fld Z h0 A0 "java/util/ArrayDeque" "tail" "I" (.int (Int32.ofNat ((HD + CN) % 17)))) (pm4 : own_El Z h0 E0 FF) (hq : own_Dq FF HD CN) (mO : own_Mi Z "[Ljava/lang/Object;" MO) :
    MetFree l (⟨"java/util/ArrayDeque", "toArray", "(Ljava/lang/Class;)[Ljava/lang/Object;"⟩ : MethodName) (head1 (Jvm.Cond.code (⟨"java/util/ArrayDeque", "toArray", "(Ljava/lang/Class;)[Ljava/lang/Object;"⟩ : MethodName) jdk_21_method_56_code 7 (some (.array (.object "java/lang/Object"))) :: ws) ({ frames := 2, cells := 1, slots := 4, locals := 35 } : Room)) (fun a U => a = #[(.ref A0), (.ref MO)] ∧ Z.Warmed39 U.vm ∧ U.heap = h0) (fun _ _ _ _ _ => True) (fun _ U o U' => ∃ v L, o = .returned v ∧ Q20 Z A0 MO E0 FF HD CN h0 n0 v U'.heap L ∧ FrameEnd U o U' L ({ frames := 2, cells := 1, slots := 4, locals := 35 } : Room).cells ({ frames := 2, cells := 1, slots := 4, locals := 35 } : Room).slots) := by
  refine MetFree.of_bodySF (plainFor_of_name pn_20) hisR ?_
  intro p e s m args below meth c s₁ Bd hml0 hP hK
  obtain ⟨rfl, hZ, hh⟩ := hP
  have hx := Bd.exec
  have hby := Bd.bytes
  have hml : c.maxLocals = 7 := hml0
  have hown : s.vm.findClass "java/util/ArrayDeque" = some m.cls := findClass_of_methodNamed Bd.named
  have hnm := (name_of_methodNamed Bd.named Bd.method).1
  have X0 : Stand p l e ({ frames := 2, cells := 1, slots := 4, locals := 35 } : Room) s m #[(.ref A0), (.ref MO)] below meth c s₁ [] 0 0 := Stand.of_body Bd
  have e0 : s₁.heap = h0 := by rw [← hh, Bd.state]; rfl
  have N0 := Fr.nil n0
  have pre0 : ∀ t, Steps p.tables e below (s₁.setTop (mkF m 0 #[.val (.ref A0), .val (.ref MO), .unset, .unset, .unset, .unset, .unset] [])) t → Steps p.tables e below (s₁.setTop (entryFrame m #[(.ref A0), (.ref MO)] 7)) t := fun t k => castTop (ef_20 m A0 MO) k
  have K_0 : Keep h0 h0 [] := Keep.refl h0 _
  have hq1 := hq.1
  have hq2 := hq.2.1
  obtain ⟨T101, X101, e101, st101⟩ := getF X0 hx hZ hown (host := "") (Or.inl (hw _ (List.mem_of_getElem? (i := 24) rfl))) Via.refl e0 pm1 (g := (mkF m 1 #[.val (.ref A0), .val (.ref MO), .unset, .unset, .unset, .unset, .unset] [(.ref A0)])) rfl rfl (hb hby d20_1)
  obtain ⟨T102, X102, e102, st102⟩ := getF X101 hx hZ hown (host := "") (Or.inl (hw _ (List.mem_of_getElem? (i := 63) rfl))) Via.refl e101 pm2 (g := (mkF m 6 #[.val (.ref A0), .val (.ref MO), .val (.ref E0), .unset, .unset, .unset, .unset] [(.ref A0)])) rfl rfl (hb hby d20_6)
  obtain ⟨T103, X103, e103, st103⟩ := getF X102 hx hZ hown (host := "") (Or.inl (hw _ (List.mem_of_getElem? (i := 60) rfl))) Via.refl e102 pm3 (g := (mkF m 12 #[.val (.ref A0), .val (.ref MO), .val (.ref E0), .unset, .val (.int (Int32.ofNat HD)), .unset, .unset] [(.ref A0)])) rfl rfl (hb hby d20_12)
  have pre104 : ∀ t, Steps p.tables e below (T103.setTop (mkF m 23 #[.val (.ref A0), .val (.ref MO), .val (.ref E0), .unset, .val (.int (Int32.ofNat HD)), .val (.int (Int32.ofNat ((HD + CN) % 17))), .unset] [(.int (Int32.ofNat ((HD + CN) % 17))), (.int (Int32.ofNat HD)), (.int (Int32.ofNat ((HD + CN) % 17)))])) t → Steps p.tables e below (s₁.setTop (entryFrame m #[(.ref A0), (.ref MO)] 7)) t := fun t kt => pre0 t (by
      show Steps p.tables e below (s₁.setTop (mkF m 0 #[.val (.ref A0), .val (.ref MO), .unset, .unset, .unset, .unset, .unset] [])) _
      refine XS.aloadN X0.here hx rfl (hb hby d20_0) rfl rfl ?_
      show Steps p.tables e below (s₁.setTop (mkF m 1 #[.val (.ref A0), .val (.ref MO), .unset, .unset, .unset, .unset, .unset] [(.ref A0)])) _
      refine st101 _ ?_
      show Steps p.tables e below (T101.setTop (mkF m 4 #[.val (.ref A0), .val (.ref MO), .unset, .unset, .unset, .unset, .unset] [(.ref E0)])) _
      refine XS.astoreN X101.here hx rfl (hb hby d20_4) rfl rfl (l' := #[.val (.ref A0), .val (.ref MO), .val (.ref E0), .unset, .unset, .unset, .unset]) rfl ?_
      show Steps p.tables e below (T101.setTop (mkF m 5 #[.val (.ref A0), .val (.ref MO), .val (.ref E0), .unset, .unset, .unset, .unset] [])) _
      refine XS.aloadN X101.here hx rfl (hb hby d20_5) rfl rfl ?_
      show Steps p.tables e below (T101.setTop (mkF m 6 #[.val (.ref A0), .val (.ref MO), .val (.ref E0), .unset, .unset, .unset, .unset] [(.ref A0)])) _
      refine st102 _ ?_
      show Steps p.tables e below (T102.setTop (mkF m 9 #[.val (.ref A0), .val (.ref MO), .val (.ref E0), .unset, .unset, .unset, .unset] [(.int (Int32.ofNat HD))])) _
      refine XS.istore X102.here hx rfl (hb hby d20_9) rfl (l' := #[.val (.ref A0), .val (.ref MO), .val (.ref E0), .unset, .val (.int (Int32.ofNat HD)), .unset, .unset]) rfl ?_
      show Steps p.tables e below (T102.setTop (mkF m 11 #[.val (.ref A0), .val (.ref MO), .val (.ref E0), .unset, .val (.int (Int32.ofNat HD)), .unset, .unset] [])) _
      refine XS.aloadN X102.here hx rfl (hb hby d20_11) rfl rfl ?_
      show Steps p.tables e below (T102.setTop (mkF m 12 #[.val (.ref A0), .val (.ref MO), .val (.ref E0), .unset, .val (.int (Int32.ofNat HD)), .unset, .unset] [(.ref A0)])) _
      refine st103 _ ?_
      show Steps p.tables e below (T103.setTop (mkF m 15 #[.val (.ref A0), .val (.ref MO), .val (.ref E0), .unset, .val (.int (Int32.ofNat HD)), .unset, .unset] [(.int (Int32.ofNat ((HD + CN) % 17)))])) _
      refine XS.istore X103.here hx rfl (hb hby d20_15) rfl (l' := #[.val (.ref A0), .val (.ref MO), .val (.ref E0), .unset, .val (.int (Int32.ofNat HD)), .val (.int (Int32.ofNat ((HD + CN) % 17))), .unset]) rfl ?_
      show Steps p.tables e below (T103.setTop (mkF m 17 #[.val (.ref A0), .val (.ref MO), .val (.ref E0), .unset, .val (.int (Int32.ofNat HD)), .val (.int (Int32.ofNat ((HD + CN) % 17))), .unset] [])) _
      refine XS.iload X103.here hx rfl (hb hby d20_17) rfl ?_
      show Steps p.tables e below (T103.setTop (mkF m 19 #[.val (.ref A0), .val (.ref MO), .val (.ref E0), .unset, .val (.int (Int32.ofNat HD)), .val (.int (Int32.ofNat ((HD + CN) % 17))), .unset] [(.int (Int32.ofNat ((HD + CN) % 17)))])) _
      refine XS.iload X103.here hx rfl (hb hby d20_19) rfl ?_
      show Steps p.tables e below (T103.setTop (mkF m 21 #[.val (.ref A0), .val (.ref MO), .val (.ref E0), .unset, .val (.int (Int32.ofNat HD)), .val (.int (Int32.ofNat ((HD + CN) % 17))), .unset] [(.int (Int32.ofNat HD)), (.int (Int32.ofNat ((HD + CN) % 17)))])) _
      refine XS.iload X103.here hx rfl (hb hby d20_21) rfl ?_
      exact kt)
  by_cases hc23 : (Int32.ofNat ((HD + CN) % 17)) < (Int32.ofNat HD)
  · obtain ⟨cl105, Ar105, -, S105, -, -⟩ := id pm4
    have wr : 17 ≤ HD + CN := by
      have q : (HD + CN) % 17 < HD := (own_lt (by omega) (by omega)).mp hc23
      omega
    obtain ⟨_, _, ⟨T106, L106, k106, n106⟩, -, X106, ⟨Lc106, hQ106, l106, y106, z106⟩, st106⟩ := Jvm.LawKit.callS X103 hx (y := (⟨"java/util/Arrays", "copyOfRange", "([Ljava/lang/Object;IILjava/lang/Class;)[Ljava/lang/Object;"⟩ : MethodName)) hown (mvT hZ (hw _ (List.mem_of_getElem? (i := 132) rfl))) (mvT hZ (hw _ (List.mem_of_getElem? (i := 133) rfl))) (mvT hZ (hw _ (List.mem_of_getElem? (i := 134) rfl))) (mvT hZ (hw _ (List.mem_of_getElem? (i := 135) rfl))) (by decide) (backOf (W := 0) (rm21 l Z a0 hw [] E0 ((Int32.ofNat ((HD + CN) % 17)) + (17 : Int32)) MO FF HD CN h0 n0 Z0 pm4 (show ((Int32.ofNat ((HD + CN) % 17)) + (17 : Int32)) - (Int32.ofNat HD) = Int32.ofNat CN from (by rw [own_a17, own_sub2 (by omega) (by omega)]; exact congrArg Int32.ofNat (by omega))) (show HD < 17 from hq1) (show CN ≤ 4 from hq2) (show own_Mi Z "[Ljava/lang/Object;" MO from mO)) hZ (hw _ (List.mem_of_getElem? (i := 135) rfl)) (hw _ (List.mem_of_getElem? (i := 134) rfl)) (by decide) (by decide)) (g := (mkF m 45 #[.val (.ref A0), .val (.ref MO), .val (.ref E0), .unset, .val (.int (Int32.ofNat HD)), .val (.int (Int32.ofNat ((HD + CN) % 17))), .val (.int ((Int32.ofNat ((HD + CN) % 17)) + (17 : Int32)))] [(.ref MO), (.int ((Int32.ofNat ((HD + CN) % 17)) + (17 : Int32))), (.int (Int32.ofNat HD)), (.ref E0)])) rfl (by rw [hml]; rfl) (argsL := [(.ref E0), (.int (Int32.ofNat HD)), (.int ((Int32.ofNat ((HD + CN) % 17)) + (17 : Int32))), (.ref MO)]) (rest := []) (lenOf pd_20_0 rfl) rfl (by show 2 * 0 + _ ≤ _; exact Nat.le_of_eq rfl) (hb hby d20_45) (fun _ _ => ⟨rfl, e103, (by decide : 0 + 1 ≤ _), (by decide : 0 + 4 ≤ _)⟩)
    dsimp only [Pt.U, Pt.locs, Pt.cells, Pt.slots] at X106 l106 y106 z106 st106 hQ106
    subst l106 y106 z106
    obtain ⟨x106_R0, rfl, N106q, K106, lb106_0, p106_0⟩ := hQ106
    have N106 := Fr.app N0 N106q
    have ne107 : A0 ≠ x106_R0 := Nat.ne_of_lt (Nat.lt_of_lt_of_le pm0.lt lb106_0)
    have ne108 : E0 ≠ x106_R0 := Nat.ne_of_lt (Nat.lt_of_lt_of_le pm4.lt lb106_0)
    have g_x106_R0 : n0 ≤ x106_R0 := Nat.le_trans Z0 lb106_0
    have sz_x106_R0 : h0.size ≤ x106_R0 := Nat.le_trans K_0.1 lb106_0
    have Z109 : n0 ≤ T106.heap.size := Nat.le_trans Z0 K106.1
    have K_109 : Keep h0 T106.heap [] := K_0.trans K106 all0
    have c111 : own_El Z T106.heap E0 FF := (pm4.keep K106 nin0)
    obtain ⟨cl110, Ar110, -, S110, -, -⟩ := id c111
    obtain ⟨T112, h112, L112, X112, e112, N112, K112, V112, st112⟩ := own_cp X106 hx hZ hown (hw _ (List.mem_of_getElem? (i := 208) rfl)) (hw _ (List.mem_of_getElem? (i := 145) rfl)) (hw _ (List.mem_of_getElem? (i := 143) rfl)) (hw _ (List.mem_of_getElem? (i := 144) rfl)) (hw _ (List.mem_of_getElem? (i := 62) rfl)) rfl (c111.ob) (p106_0) (i := 0) (j := (17 - HD)) (k := ((HD + CN) % 17)) rfl (own_s17 hq1) rfl (by omega) (by omega) N106 g_x106_R0 (g := (mkF m 94 #[.val (.ref A0), .val (.ref MO), .val (.ref E0), .val (.ref x106_R0), .val (.int (Int32.ofNat HD)), .val (.int (Int32.ofNat ((HD + CN) % 17))), .val (.int ((Int32.ofNat ((HD + CN) % 17)) + (17 : Int32)))] [(.int (Int32.ofNat ((HD + CN) % 17))), (.int ((17 : Int32) - (Int32.ofNat HD))), (.ref x106_R0), (.int (0 : Int32)), (.ref E0)])) rfl (by rw [hml]; rfl) rfl (hb hby d20_94) (by decide) (W := 0) (by show 2 * 0 + _ ≤ _; exact Nat.le_of_eq rfl) (by decide)
    have Z113 : n0 ≤ h112.size := Nat.le_trans Z109 K112.1
    have K_113 : Keep h0 h112 [] := K_109.trans K112 (allS (Or.inr sz_x106_R0) all0)
    have pre114 : ∀ t, Steps p.tables e below (T112.setTop (mkF m 98 #[.val (.ref A0), .val (.ref MO), .val (.ref E0), .val (.ref x106_R0), .val (.int (Int32.ofNat HD)), .val (.int (Int32.ofNat ((HD + CN) % 17))), .val (.int ((Int32.ofNat ((HD + CN) % 17)) + (17 : Int32)))] [(.ref x106_R0)])) t → Steps p.tables e below (s₁.setTop (entryFrame m #[(.ref A0), (.ref MO)] 7)) t := fun t kt => pre104 t (by
        show Steps p.tables e below (T103.setTop (mkF m 23 #[.val (.ref A0), .val (.ref MO), .val (.ref E0), .unset, .val (.int (Int32.ofNat HD)), .val (.int (Int32.ofNat ((HD + CN) % 17))), .unset] [(.int (Int32.ofNat ((HD + CN) % 17))), (.int (Int32.ofNat HD)), (.int (Int32.ofNat ((HD + CN) % 17)))])) _
        refine XS.icmpYes X103.here hx rfl (pc0 := 23) (pc' := 30) rfl (hb hby d20_23) rfl (tlt hc23).2.2.1 (by decide) (by decide) ?_
        show Steps p.tables e below (T103.setTop (mkF m 30 #[.val (.ref A0), .val (.ref MO), .val (.ref E0), .unset, .val (.int (Int32.ofNat HD)), .val (.int (Int32.ofNat ((HD + CN) % 17))), .unset] [(.int (Int32.ofNat ((HD + CN) % 17)))])) _
        refine XS.aloadN X103.here hx rfl (hb hby d20_30) rfl rfl ?_
        show Steps p.tables e below (T103.setTop (mkF m 31 #[.val (.ref A0), .val (.ref MO), .val (.ref E0), .unset, .val (.int (Int32.ofNat HD)), .val (.int (Int32.ofNat ((HD + CN) % 17))), .unset] [(.ref E0), (.int (Int32.ofNat ((HD + CN) % 17)))])) _
        refine X103.arraylength hx (by rw [e103]; exact Ar105.1) (State.isArrayOf_alike hZ.alike Ar105.2.1) (g := (mkF m 31 #[.val (.ref A0), .val (.ref MO), .val (.ref E0), .unset, .val (.int (Int32.ofNat HD)), .val (.int (Int32.ofNat ((HD + CN) % 17))), .unset] [(.ref E0), (.int (Int32.ofNat ((HD + CN) % 17)))])) rfl rfl (hb hby d20_31) _ ?_
        rw [show cl105.slots.size.toInt32 = (17 : Int32) from by rw [S105] <;> rfl]
        show Steps p.tables e below (T103.setTop (mkF m 32 #[.val (.ref A0), .val (.ref MO), .val (.ref E0), .unset, .val (.int (Int32.ofNat HD)), .val (.int (Int32.ofNat ((HD + CN) % 17))), .unset] [(.int (17 : Int32)), (.int (Int32.ofNat ((HD + CN) % 17)))])) _
        refine XS.iadd X103.here hx rfl (hb hby d20_32) rfl ?_
        show Steps p.tables e below (T103.setTop (mkF m 33 #[.val (.ref A0), .val (.ref MO), .val (.ref E0), .unset, .val (.int (Int32.ofNat HD)), .val (.int (Int32.ofNat ((HD + CN) % 17))), .unset] [(.int ((Int32.ofNat ((HD + CN) % 17)) + (17 : Int32)))])) _
        refine XS.dup X103.here hx rfl (hb hby d20_33) rfl rfl ?_
        show Steps p.tables e below (T103.setTop (mkF m 34 #[.val (.ref A0), .val (.ref MO), .val (.ref E0), .unset, .val (.int (Int32.ofNat HD)), .val (.int (Int32.ofNat ((HD + CN) % 17))), .unset] [(.int ((Int32.ofNat ((HD + CN) % 17)) + (17 : Int32))), (.int ((Int32.ofNat ((HD + CN) % 17)) + (17 : Int32)))])) _
        refine XS.istore X103.here hx rfl (hb hby d20_34) rfl (l' := #[.val (.ref A0), .val (.ref MO), .val (.ref E0), .unset, .val (.int (Int32.ofNat HD)), .val (.int (Int32.ofNat ((HD + CN) % 17))), .val (.int ((Int32.ofNat ((HD + CN) % 17)) + (17 : Int32)))]) rfl ?_
        show Steps p.tables e below (T103.setTop (mkF m 36 #[.val (.ref A0), .val (.ref MO), .val (.ref E0), .unset, .val (.int (Int32.ofNat HD)), .val (.int (Int32.ofNat ((HD + CN) % 17))), .val (.int ((Int32.ofNat ((HD + CN) % 17)) + (17 : Int32)))] [(.int ((Int32.ofNat ((HD + CN) % 17)) + (17 : Int32)))])) _
        refine XS.ifNo X103.here hx rfl (hb hby d20_36) rfl ((if0 _ _).trans (flt (show ¬ (((Int32.ofNat ((HD + CN) % 17)) + (17 : Int32)) < (0 : Int32)) from (by rw [own_a17]; exact own_nn (by omega)))).1) ?_
        show Steps p.tables e below (T103.setTop (mkF m 39 #[.val (.ref A0), .val (.ref MO), .val (.ref E0), .unset, .val (.int (Int32.ofNat HD)), .val (.int (Int32.ofNat ((HD + CN) % 17))), .val (.int ((Int32.ofNat ((HD + CN) % 17)) + (17 : Int32)))] [])) _
        refine XS.aloadN X103.here hx rfl (hb hby d20_39) rfl rfl ?_
        show Steps p.tables e below (T103.setTop (mkF m 40 #[.val (.ref A0), .val (.ref MO), .val (.ref E0), .unset, .val (.int (Int32.ofNat HD)), .val (.int (Int32.ofNat ((HD + CN) % 17))), .val (.int ((Int32.ofNat ((HD + CN) % 17)) + (17 : Int32)))] [(.ref E0)])) _
        refine XS.iload X103.here hx rfl (hb hby d20_40) rfl ?_
        show Steps p.tables e below (T103.setTop (mkF m 42 #[.val (.ref A0), .val (.ref MO), .val (.ref E0), .unset, .val (.int (Int32.ofNat HD)), .val (.int (Int32.ofNat ((HD + CN) % 17))), .val (.int ((Int32.ofNat ((HD + CN) % 17)) + (17 : Int32)))] [(.int (Int32.ofNat HD)), (.ref E0)])) _
        refine XS.iload X103.here hx rfl (hb hby d20_42) rfl ?_
        show Steps p.tables e below (T103.setTop (mkF m 44 #[.val (.ref A0), .val (.ref MO), .val (.ref E0), .unset, .val (.int (Int32.ofNat HD)), .val (.int (Int32.ofNat ((HD + CN) % 17))), .val (.int ((Int32.ofNat ((HD + CN) % 17)) + (17 : Int32)))] [(.int ((Int32.ofNat ((HD + CN) % 17)) + (17 : Int32))), (.int (Int32.ofNat HD)), (.ref E0)])) _
        refine XS.aloadN X103.here hx rfl (hb hby d20_44) rfl rfl ?_
        show Steps p.tables e below (T103.setTop (mkF m 45 #[.val (.ref A0), .val (.ref MO), .val (.ref E0), .unset, .val (.int (Int32.ofNat HD)), .val (.int (Int32.ofNat ((HD + CN) % 17))), .val (.int ((Int32.ofNat ((HD + CN) % 17)) + (17 : Int32)))] [(.ref MO), (.int ((Int32.ofNat ((HD + CN) % 17)) + (17 : Int32))), (.int (Int32.ofNat HD)), (.ref E0)])) _
        refine st106 _ ?_
        show Steps p.tables e below (T106.setTop (mkF m 48 #[.val (.ref A0), .val (.ref MO), .val (.ref E0), .unset, .val (.int (Int32.ofNat HD)), .val (.int (Int32.ofNat ((HD + CN) % 17))), .val (.int ((Int32.ofNat ((HD + CN) % 17)) + (17 : Int32)))] [(.ref x106_R0)])) _
        refine XS.astoreN X106.here hx rfl (hb hby d20_48) rfl rfl (l' := #[.val (.ref A0), .val (.ref MO), .val (.ref E0), .val (.ref x106_R0), .val (.int (Int32.ofNat HD)), .val (.int (Int32.ofNat ((HD + CN) % 17))), .val (.int ((Int32.ofNat ((HD + CN) % 17)) + (17 : Int32)))]) rfl ?_
        show Steps p.tables e below (T106.setTop (mkF m 49 #[.val (.ref A0), .val (.ref MO), .val (.ref E0), .val (.ref x106_R0), .val (.int (Int32.ofNat HD)), .val (.int (Int32.ofNat ((HD + CN) % 17))), .val (.int ((Int32.ofNat ((HD + CN) % 17)) + (17 : Int32)))] [])) _
        refine XS.goto X106.here hx rfl (pc0 := 49) (pc' := 77) rfl (hb hby d20_49) (by decide) (by decide) ?_
        show Steps p.tables e below (T106.setTop (mkF m 77 #[.val (.ref A0), .val (.ref MO), .val (.ref E0), .val (.ref x106_R0), .val (.int (Int32.ofNat HD)), .val (.int (Int32.ofNat ((HD + CN) % 17))), .val (.int ((Int32.ofNat ((HD + CN) % 17)) + (17 : Int32)))] [])) _
        refine XS.iload X106.here hx rfl (hb hby d20_77) rfl ?_
        show Steps p.tables e below (T106.setTop (mkF m 79 #[.val (.ref A0), .val (.ref MO), .val (.ref E0), .val (.ref x106_R0), .val (.int (Int32.ofNat HD)), .val (.int (Int32.ofNat ((HD + CN) % 17))), .val (.int ((Int32.ofNat ((HD + CN) % 17)) + (17 : Int32)))] [(.int ((Int32.ofNat ((HD + CN) % 17)) + (17 : Int32)))])) _
        refine XS.iload X106.here hx rfl (hb hby d20_79) rfl ?_
        show Steps p.tables e below (T106.setTop (mkF m 81 #[.val (.ref A0), .val (.ref MO), .val (.ref E0), .val (.ref x106_R0), .val (.int (Int32.ofNat HD)), .val (.int (Int32.ofNat ((HD + CN) % 17))), .val (.int ((Int32.ofNat ((HD + CN) % 17)) + (17 : Int32)))] [(.int (Int32.ofNat ((HD + CN) % 17))), (.int ((Int32.ofNat ((HD + CN) % 17)) + (17 : Int32)))])) _
        refine XS.icmpNo X106.here hx rfl (hb hby d20_81) rfl (feq (show ¬ (((Int32.ofNat ((HD + CN) % 17)) + (17 : Int32)) = (Int32.ofNat ((HD + CN) % 17))) from (by rw [own_a17, ← Int32.toInt_inj, own_nat _ (by omega), own_nat _ (by omega)]; omega))).1 ?_
        show Steps p.tables e below (T106.setTop (mkF m 84 #[.val (.ref A0), .val (.ref MO), .val (.ref E0), .val (.ref x106_R0), .val (.int (Int32.ofNat HD)), .val (.int (Int32.ofNat ((HD + CN) % 17))), .val (.int ((Int32.ofNat ((HD + CN) % 17)) + (17 : Int32)))] [])) _
        refine XS.aloadN X106.here hx rfl (hb hby d20_84) rfl rfl ?_
        show Steps p.tables e below (T106.setTop (mkF m 85 #[.val (.ref A0), .val (.ref MO), .val (.ref E0), .val (.ref x106_R0), .val (.int (Int32.ofNat HD)), .val (.int (Int32.ofNat ((HD + CN) % 17))), .val (.int ((Int32.ofNat ((HD + CN) % 17)) + (17 : Int32)))] [(.ref E0)])) _
        refine XS.iconst X106.here hx rfl (hb hby d20_85) ?_
        show Steps p.tables e below (T106.setTop (mkF m 86 #[.val (.ref A0), .val (.ref MO), .val (.ref E0), .val (.ref x106_R0), .val (.int (Int32.ofNat HD)), .val (.int (Int32.ofNat ((HD + CN) % 17))), .val (.int ((Int32.ofNat ((HD + CN) % 17)) + (17 : Int32)))] [(.int (0 : Int32)), (.ref E0)])) _
        refine XS.aloadN X106.here hx rfl (hb hby d20_86) rfl rfl ?_
        show Steps p.tables e below (T106.setTop (mkF m 87 #[.val (.ref A0), .val (.ref MO), .val (.ref E0), .val (.ref x106_R0), .val (.int (Int32.ofNat HD)), .val (.int (Int32.ofNat ((HD + CN) % 17))), .val (.int ((Int32.ofNat ((HD + CN) % 17)) + (17 : Int32)))] [(.ref x106_R0), (.int (0 : Int32)), (.ref E0)])) _
        refine XS.aloadN X106.here hx rfl (hb hby d20_87) rfl rfl ?_
        show Steps p.tables e below (T106.setTop (mkF m 88 #[.val (.ref A0), .val (.ref MO), .val (.ref E0), .val (.ref x106_R0), .val (.int (Int32.ofNat HD)), .val (.int (Int32.ofNat ((HD + CN) % 17))), .val (.int ((Int32.ofNat ((HD + CN) % 17)) + (17 : Int32)))] [(.ref E0), (.ref x106_R0), (.int (0 : Int32)), (.ref E0)])) _
        refine X106.arraylength hx Ar110.1 (State.isArrayOf_alike hZ.alike Ar110.2.1) (g := (mkF m 88 #[.val (.ref A0), .val (.ref MO), .val (.ref E0), .val (.ref x106_R0), .val (.int (Int32.ofNat HD)), .val (.int (Int32.ofNat ((HD + CN) % 17))), .val (.int ((Int32.ofNat ((HD + CN) % 17)) + (17 : Int32)))] [(.ref E0), (.ref x106_R0), (.int (0 : Int32)), (.ref E0)])) rfl rfl (hb hby d20_88) _ ?_
        rw [show cl110.slots.size.toInt32 = (17 : Int32) from by rw [S110] <;> rfl]
        show Steps p.tables e below (T106.setTop (mkF m 89 #[.val (.ref A0), .val (.ref MO), .val (.ref E0), .val (.ref x106_R0), .val (.int (Int32.ofNat HD)), .val (.int (Int32.ofNat ((HD + CN) % 17))), .val (.int ((Int32.ofNat ((HD + CN) % 17)) + (17 : Int32)))] [(.int (17 : Int32)), (.ref x106_R0), (.int (0 : Int32)), (.ref E0)])) _
        refine XS.iload X106.here hx rfl (hb hby d20_89) rfl ?_
        show Steps p.tables e below (T106.setTop (mkF m 91 #[.val (.ref A0), .val (.ref MO), .val (.ref E0), .val (.ref x106_R0), .val (.int (Int32.ofNat HD)), .val (.int (Int32.ofNat ((HD + CN) % 17))), .val (.int ((Int32.ofNat ((HD + CN) % 17)) + (17 : Int32)))] [(.int (Int32.ofNat HD)), (.int (17 : Int32)), (.ref x106_R0), (.int (0 : Int32)), (.ref E0)])) _
        refine XS.isub X106.here hx rfl (hb hby d20_91) rfl ?_
        show Steps p.tables e below (T106.setTop (mkF m 92 #[.val (.ref A0), .val (.ref MO), .val (.ref E0), .val (.ref x106_R0), .val (.int (Int32.ofNat HD)), .val (.int (Int32.ofNat ((HD + CN) % 17))), .val (.int ((Int32.ofNat ((HD + CN) % 17)) + (17 : Int32)))] [(.int ((17 : Int32) - (Int32.ofNat HD))), (.ref x106_R0), (.int (0 : Int32)), (.ref E0)])) _
        refine XS.iload X106.here hx rfl (hb hby d20_92) rfl ?_
        show Steps p.tables e below (T106.setTop (mkF m 94 #[.val (.ref A0), .val (.ref MO), .val (.ref E0), .val (.ref x106_R0), .val (.int (Int32.ofNat HD)), .val (.int (Int32.ofNat ((HD + CN) % 17))), .val (.int ((Int32.ofNat ((HD + CN) % 17)) + (17 : Int32)))] [(.int (Int32.ofNat ((HD + CN) % 17))), (.int ((17 : Int32) - (Int32.ofNat HD))), (.ref x106_R0), (.int (0 : Int32)), (.ref E0)])) _
        refine st112 _ ?_
        show Steps p.tables e below (T112.setTop (mkF m 97 #[.val (.ref A0), .val (.ref MO), .val (.ref E0), .val (.ref x106_R0), .val (.int (Int32.ofNat HD)), .val (.int (Int32.ofNat ((HD + CN) % 17))), .val (.int ((Int32.ofNat ((HD + CN) % 17)) + (17 : Int32)))] [])) _
        refine XS.aloadN X112.here hx rfl (hb hby d20_97) rfl rfl ?_
        exact kt)
    obtain ⟨fs, hr, hrun, hended, hW, hsame⟩ := X112.leave (v := some (.ref x106_R0)) (fun h => by rw [Bd.returns] at h; cases h)
    refine ⟨_, _, pre114 _ ?_, hrun, hended, _, _, rfl, ?_, ⟨_, rfl⟩, hW, hsame.mono (by decide) (by decide)⟩
    · show Steps p.tables e below (T112.setTop (mkF m 98 #[.val (.ref A0), .val (.ref MO), .val (.ref E0), .val (.ref x106_R0), .val (.int (Int32.ofNat HD)), .val (.int (Int32.ofNat ((HD + CN) % 17))), .val (.int ((Int32.ofNat ((HD + CN) % 17)) + (17 : Int32)))] [(.ref x106_R0)])) _
      exact retOut X112 hx Bd.returns rfl (Or.inr (Or.inr (Or.inr (Or.inr ⟨rfl, rfl, rfl⟩)))) (hb hby d20_98) hr
    · show Q20 Z A0 MO E0 FF HD CN h0 n0 _ T112.heap _
      rw [e112]
      exact ⟨x106_R0, rfl, N112, K_113, sz_x106_R0, V112⟩
  · have wr : HD + CN < 17 := by
      have q : ¬ ((HD + CN) % 17 < HD) := fun z => hc23 ((own_lt (by omega) (by omega)).mpr z)
      omega
    obtain ⟨_, _, ⟨T115, L115, k115, n115⟩, -, X115, ⟨Lc115, hQ115, l115, y115, z115⟩, st115⟩ := Jvm.LawKit.callS X103 hx (y := (⟨"java/util/Arrays", "copyOfRange", "([Ljava/lang/Object;IILjava/lang/Class;)[Ljava/lang/Object;"⟩ : MethodName)) hown (mvT hZ (hw _ (List.mem_of_getElem? (i := 132) rfl))) (mvT hZ (hw _ (List.mem_of_getElem? (i := 133) rfl))) (mvT hZ (hw _ (List.mem_of_getElem? (i := 134) rfl))) (mvT hZ (hw _ (List.mem_of_getElem? (i := 135) rfl))) (by decide) (backOf (W := 0) (rm21 l Z a0 hw [] E0 ((Int32.ofNat ((HD + CN) % 17)) + (0 : Int32)) MO FF HD CN h0 n0 Z0 pm4 (show ((Int32.ofNat ((HD + CN) % 17)) + (0 : Int32)) - (Int32.ofNat HD) = Int32.ofNat CN from (by rw [own_a0, own_sub2 (by omega) (by omega)]; exact congrArg Int32.ofNat (by omega))) (show HD < 17 from hq1) (show CN ≤ 4 from hq2) (show own_Mi Z "[Ljava/lang/Object;" MO from mO)) hZ (hw _ (List.mem_of_getElem? (i := 135) rfl)) (hw _ (List.mem_of_getElem? (i := 134) rfl)) (by decide) (by decide)) (g := (mkF m 45 #[.val (.ref A0), .val (.ref MO), .val (.ref E0), .unset, .val (.int (Int32.ofNat HD)), .val (.int (Int32.ofNat ((HD + CN) % 17))), .val (.int ((Int32.ofNat ((HD + CN) % 17)) + (0 : Int32)))] [(.ref MO), (.int ((Int32.ofNat ((HD + CN) % 17)) + (0 : Int32))), (.int (Int32.ofNat HD)), (.ref E0)])) rfl (by rw [hml]; rfl) (argsL := [(.ref E0), (.int (Int32.ofNat HD)), (.int ((Int32.ofNat ((HD + CN) % 17)) + (0 : Int32))), (.ref MO)]) (rest := []) (lenOf pd_20_0 rfl) rfl (by show 2 * 0 + _ ≤ _; exact Nat.le_of_eq rfl) (hb hby d20_45) (fun _ _ => ⟨rfl, e103, (by decide : 0 + 1 ≤ _), (by decide : 0 + 4 ≤ _)⟩)
    dsimp only [Pt.U, Pt.locs, Pt.cells, Pt.slots] at X115 l115 y115 z115 st115 hQ115
    subst l115 y115 z115
    obtain ⟨x115_R0, rfl, N115q, K115, lb115_0, p115_0⟩ := hQ115
    have N115 := Fr.app N0 N115q
    have ne116 : A0 ≠ x115_R0 := Nat.ne_of_lt (Nat.lt_of_lt_of_le pm0.lt lb115_0)
    have ne117 : E0 ≠ x115_R0 := Nat.ne_of_lt (Nat.lt_of_lt_of_le pm4.lt lb115_0)
    have g_x115_R0 : n0 ≤ x115_R0 := Nat.le_trans Z0 lb115_0
    have sz_x115_R0 : h0.size ≤ x115_R0 := Nat.le_trans K_0.1 lb115_0
    have Z118 : n0 ≤ T115.heap.size := Nat.le_trans Z0 K115.1
    have K_118 : Keep h0 T115.heap [] := K_0.trans K115 all0
    have pre119 : ∀ t, Steps p.tables e below (T115.setTop (mkF m 98 #[.val (.ref A0), .val (.ref MO), .val (.ref E0), .val (.ref x115_R0), .val (.int (Int32.ofNat HD)), .val (.int (Int32.ofNat ((HD + CN) % 17))), .val (.int ((Int32.ofNat ((HD + CN) % 17)) + (0 : Int32)))] [(.ref x115_R0)])) t → Steps p.tables e below (s₁.setTop (entryFrame m #[(.ref A0), (.ref MO)] 7)) t := fun t kt => pre104 t (by
        show Steps p.tables e below (T103.setTop (mkF m 23 #[.val (.ref A0), .val (.ref MO), .val (.ref E0), .unset, .val (.int (Int32.ofNat HD)), .val (.int (Int32.ofNat ((HD + CN) % 17))), .unset] [(.int (Int32.ofNat ((HD + CN) % 17))), (.int (Int32.ofNat HD)), (.int (Int32.ofNat ((HD + CN) % 17)))])) _
        refine XS.icmpNo X103.here hx rfl (hb hby d20_23) rfl (flt hc23).2.2.1 ?_
        show Steps p.tables e below (T103.setTop (mkF m 26 #[.val (.ref A0), .val (.ref MO), .val (.ref E0), .unset, .val (.int (Int32.ofNat HD)), .val (.int (Int32.ofNat ((HD + CN) % 17))), .unset] [(.int (Int32.ofNat ((HD + CN) % 17)))])) _
        refine XS.iconst X103.here hx rfl (hb hby d20_26) ?_
        show Steps p.tables e below (T103.setTop (mkF m 27 #[.val (.ref A0), .val (.ref MO), .val (.ref E0), .unset, .val (.int (Int32.ofNat HD)), .val (.int (Int32.ofNat ((HD + CN) % 17))), .unset] [(.int (0 : Int32)), (.int (Int32.ofNat ((HD + CN) % 17)))])) _
        refine XS.goto X103.here hx rfl (pc0 := 27) (pc' := 32) rfl (hb hby d20_27) (by decide) (by decide) ?_
        show Steps p.tables e below (T103.setTop (mkF m 32 #[.val (.ref A0), .val (.ref MO), .val (.ref E0), .unset, .val (.int (Int32.ofNat HD)), .val (.int (Int32.ofNat ((HD + CN) % 17))), .unset] [(.int (0 : Int32)), (.int (Int32.ofNat ((HD + CN) % 17)))])) _
        refine XS.iadd X103.here hx rfl (hb hby d20_32) rfl ?_
        show Steps p.tables e below (T103.setTop (mkF m 33 #[.val (.ref A0), .val (.ref MO), .val (.ref E0), .unset, .val (.int (Int32.ofNat HD)), .val (.int (Int32.ofNat ((HD + CN) % 17))), .unset] [(.int ((Int32.ofNat ((HD + CN) % 17)) + (0 : Int32)))])) _
        refine XS.dup X103.here hx rfl (hb hby d20_33) rfl rfl ?_
        show Steps p.tables e below (T103.setTop (mkF m 34 #[.val (.ref A0), .val (.ref MO), .val (.ref E0), .unset, .val (.int (Int32.ofNat HD)), .val (.int (Int32.ofNat ((HD + CN) % 17))), .unset] [(.int ((Int32.ofNat ((HD + CN) % 17)) + (0 : Int32))), (.int ((Int32.ofNat ((HD + CN) % 17)) + (0 : Int32)))])) _
        refine XS.istore X103.here hx rfl (hb hby d20_34) rfl (l' := #[.val (.ref A0), .val (.ref MO), .val (.ref E0), .unset, .val (.int (Int32.ofNat HD)), .val (.int (Int32.ofNat ((HD + CN) % 17))), .val (.int ((Int32.ofNat ((HD + CN) % 17)) + (0 : Int32)))]) rfl ?_
        show Steps p.tables e below (T103.setTop (mkF m 36 #[.val (.ref A0), .val (.ref MO), .val (.ref E0), .unset, .val (.int (Int32.ofNat HD)), .val (.int (Int32.ofNat ((HD + CN) % 17))), .val (.int ((Int32.ofNat ((HD + CN) % 17)) + (0 : Int32)))] [(.int ((Int32.ofNat ((HD + CN) % 17)) + (0 : Int32)))])) _
        refine XS.ifNo X103.here hx rfl (hb hby d20_36) rfl ((if0 _ _).trans (flt (show ¬ (((Int32.ofNat ((HD + CN) % 17)) + (0 : Int32)) < (0 : Int32)) from (by rw [own_a0]; exact own_nn (by omega)))).1) ?_
        show Steps p.tables e below (T103.setTop (mkF m 39 #[.val (.ref A0), .val (.ref MO), .val (.ref E0), .unset, .val (.int (Int32.ofNat HD)), .val (.int (Int32.ofNat ((HD + CN) % 17))), .val (.int ((Int32.ofNat ((HD + CN) % 17)) + (0 : Int32)))] [])) _
        refine XS.aloadN X103.here hx rfl (hb hby d20_39) rfl rfl ?_
        show Steps p.tables e below (T103.setTop (mkF m 40 #[.val (.ref A0), .val (.ref MO), .val (.ref E0), .unset, .val (.int (Int32.ofNat HD)), .val (.int (Int32.ofNat ((HD + CN) % 17))), .val (.int ((Int32.ofNat ((HD + CN) % 17)) + (0 : Int32)))] [(.ref E0)])) _
        refine XS.iload X103.here hx rfl (hb hby d20_40) rfl ?_
        show Steps p.tables e below (T103.setTop (mkF m 42 #[.val (.ref A0), .val (.ref MO), .val (.ref E0), .unset, .val (.int (Int32.ofNat HD)), .val (.int (Int32.ofNat ((HD + CN) % 17))), .val (.int ((Int32.ofNat ((HD + CN) % 17)) + (0 : Int32)))] [(.int (Int32.ofNat HD)), (.ref E0)])) _
        refine XS.iload X103.here hx rfl (hb hby d20_42) rfl ?_
        show Steps p.tables e below (T103.setTop (mkF m 44 #[.val (.ref A0), .val (.ref MO), .val (.ref E0), .unset, .val (.int (Int32.ofNat HD)), .val (.int (Int32.ofNat ((HD + CN) % 17))), .val (.int ((Int32.ofNat ((HD + CN) % 17)) + (0 : Int32)))] [(.int ((Int32.ofNat ((HD + CN) % 17)) + (0 : Int32))), (.int (Int32.ofNat HD)), (.ref E0)])) _
        refine XS.aloadN X103.here hx rfl (hb hby d20_44) rfl rfl ?_
        show Steps p.tables e below (T103.setTop (mkF m 45 #[.val (.ref A0), .val (.ref MO), .val (.ref E0), .unset, .val (.int (Int32.ofNat HD)), .val (.int (Int32.ofNat ((HD + CN) % 17))), .val (.int ((Int32.ofNat ((HD + CN) % 17)) + (0 : Int32)))] [(.ref MO), (.int ((Int32.ofNat ((HD + CN) % 17)) + (0 : Int32))), (.int (Int32.ofNat HD)), (.ref E0)])) _
        refine st115 _ ?_
        show Steps p.tables e below (T115.setTop (mkF m 48 #[.val (.ref A0), .val (.ref MO), .val (.ref E0), .unset, .val (.int (Int32.ofNat HD)), .val (.int (Int32.ofNat ((HD + CN) % 17))), .val (.int ((Int32.ofNat ((HD + CN) % 17)) + (0 : Int32)))] [(.ref x115_R0)])) _
        refine XS.astoreN X115.here hx rfl (hb hby d20_48) rfl rfl (l' := #[.val (.ref A0), .val (.ref MO), .val (.ref E0), .val (.ref x115_R0), .val (.int (Int32.ofNat HD)), .val (.int (Int32.ofNat ((HD + CN) % 17))), .val (.int ((Int32.ofNat ((HD + CN) % 17)) + (0 : Int32)))]) rfl ?_
        show Steps p.tables e below (T115.setTop (mkF m 49 #[.val (.ref A0), .val (.ref MO), .val (.ref E0), .val (.ref x115_R0), .val (.int (Int32.ofNat HD)), .val (.int (Int32.ofNat ((HD + CN) % 17))), .val (.int ((Int32.ofNat ((HD + CN) % 17)) + (0 : Int32)))] [])) _
        refine XS.goto X115.here hx rfl (pc0 := 49) (pc' := 77) rfl (hb hby d20_49) (by decide) (by decide) ?_
        show Steps p.tables e below (T115.setTop (mkF m 77 #[.val (.ref A0), .val (.ref MO), .val (.ref E0), .val (.ref x115_R0), .val (.int (Int32.ofNat HD)), .val (.int (Int32.ofNat ((HD + CN) % 17))), .val (.int ((Int32.ofNat ((HD + CN) % 17)) + (0 : Int32)))] [])) _
        refine XS.iload X115.here hx rfl (hb hby d20_77) rfl ?_
        show Steps p.tables e below (T115.setTop (mkF m 79 #[.val (.ref A0), .val (.ref MO), .val (.ref E0), .val (.ref x115_R0), .val (.int (Int32.ofNat HD)), .val (.int (Int32.ofNat ((HD + CN) % 17))), .val (.int ((Int32.ofNat ((HD + CN) % 17)) + (0 : Int32)))] [(.int ((Int32.ofNat ((HD + CN) % 17)) + (0 : Int32)))])) _
        refine XS.iload X115.here hx rfl (hb hby d20_79) rfl ?_
        show Steps p.tables e below (T115.setTop (mkF m 81 #[.val (.ref A0), .val (.ref MO), .val (.ref E0), .val (.ref x115_R0), .val (.int (Int32.ofNat HD)), .val (.int (Int32.ofNat ((HD + CN) % 17))), .val (.int ((Int32.ofNat ((HD + CN) % 17)) + (0 : Int32)))] [(.int (Int32.ofNat ((HD + CN) % 17))), (.int ((Int32.ofNat ((HD + CN) % 17)) + (0 : Int32)))])) _
        refine XS.icmpYes X115.here hx rfl (pc0 := 81) (pc' := 97) rfl (hb hby d20_81) rfl (teq (show ((Int32.ofNat ((HD + CN) % 17)) + (0 : Int32)) = (Int32.ofNat ((HD + CN) % 17)) from (own_a0 _))).1 (by decide) (by decide) ?_
        show Steps p.tables e below (T115.setTop (mkF m 97 #[.val (.ref A0), .val (.ref MO), .val (.ref E0), .val (.ref x115_R0), .val (.int (Int32.ofNat HD)), .val (.int (Int32.ofNat ((HD + CN) % 17))), .val (.int ((Int32.ofNat ((HD + CN) % 17)) + (0 : Int32)))] [])) _
        refine XS.aloadN X115.here hx rfl (hb hby d20_97) rfl rfl ?_
        exact kt)
    obtain ⟨fs, hr, hrun, hended, hW, hsame⟩ := X115.leave (v := some (.ref x115_R0)) (fun h => by rw [Bd.returns] at h; cases h)
    refine ⟨_, _, pre119 _ ?_, hrun, hended, _, _, rfl, ?_, ⟨_, rfl⟩, hW, hsame.mono (by decide) (by decide)⟩
    · show Steps p.tables e below (T115.setTop (mkF m 98 #[.val (.ref A0), .val (.ref MO), .val (.ref E0), .val (.ref x115_R0), .val (.int (Int32.ofNat HD)), .val (.int (Int32.ofNat ((HD + CN) % 17))), .val (.int ((Int32.ofNat ((HD + CN) % 17)) + (0 : Int32)))] [(.ref x115_R0)])) _
      exact retOut X115 hx Bd.returns rfl (Or.inr (Or.inr (Or.inr (Or.inr ⟨rfl, rfl, rfl⟩)))) (hb hby d20_98) hr
    · show Q20 Z A0 MO E0 FF HD CN h0 n0 _ T115.heap _
      exact ⟨x115_R0, rfl, N115, K_118, sz_x115_R0, p115_0⟩
theorem d19_0 : decode jdk_21_method_55_code 0 = .ok (.aload_n 0, 1) := by decide +kernel
theorem d19_1 : decode jdk_21_method_55_code 1 = .ok (.ldc 188, 2) := by decide +kernel
theorem d19_3 : decode jdk_21_method_55_code 3 = .ok (.invokevirtual 189, 3) := by decide +kernel
theorem d19_6 : decode jdk_21_method_55_code 6 = .ok (.areturn, 1) := by decide +kernel
theorem pn_19 : plainName "java/util/ArrayDeque" = true := by first | (simp [plainName, overriddenIn]; done) | decide +kernel
theorem pd_19_0 : parseMethodDescriptor "(Ljava/lang/Class;)[Ljava/lang/Object;" = some ⟨[(.object "java/lang/Class")], some (.array (.object "java/lang/Object"))⟩ := by decide +kernel
theorem ef_19 (m : MethodId) (A0 : Addr) : entryFrame m #[(.ref A0)] 1 = mkF m 0 #[.val (.ref A0)] [] := by first | (simp [entryFrame, mkF, argsToLocals, Value.category]; done) | rfl
def Q19 (Z : State) (A0 : Addr) (E0 : Addr) (FF : Nat → Value) (HD : Nat) (CN : Nat) (MO : Addr) (h0 : Heap) (n0 : Nat) (v : Option Value) (h : Heap) (L : List Loc) : Prop := ∃ R0 : Addr, (v = some (.ref R0)) ∧ (Fr n0 L) ∧ (Keep h0 h []) ∧ (h0.size ≤ R0) ∧ (own_Ob Z h R0 CN)
set_option maxRecDepth 65536 in
set_option maxHeartbeats 40000000 in
theorem rm19 (l : Launch) (Z : State) (a0 : Array Value) (hw : ∀ d ∈ tables_1, d.before a0 Z = true) (ws : List Jvm.Cond) (A0 : Addr) (E0 : Addr) (FF : Nat → Value) (HD : Nat) (CN : Nat) (MO : Addr) (h0 : Heap) (n0 : Nat) (Z0 : n0 ≤ h0.size) (pm0 : Exa Z h0 A0 "java/util/ArrayDeque") (pm1 : Fld Z h0 A0 "java/util/ArrayDeque" "elements" "[Ljava/lang/Object;" (.ref E0)) (pm2 : Fld Z h0 A0 "java/util/ArrayDeque" "head" "I" (.int (Int32.ofNat HD))) (pm3 : Fld Z h0 A0 "java/util/ArrayDeque" "tail" "I" (.int (Int32.ofNat ((HD + CN) % 17)))) (pm4 : own_El Z h0 E0 FF) (hq : own_Dq FF HD CN) (mO : own_Mi Z "[Ljava/lang/Object;" MO) :
    MetFree l (⟨"java/util/ArrayDeque", "toArray", "()[Ljava/lang/Object;"⟩ : MethodName) (head1 (Jvm.Cond.code (⟨"java/util/ArrayDeque", "toArray", "()[Ljava/lang/Object;"⟩ : MethodName) jdk_21_method_55_code 1 (some (.array (.object "java/lang/Object"))) :: ws) ({ frames := 3, cells := 1, slots := 4, locals := 53 } : Room)) (fun a U => a = #[(.ref A0)] ∧ Z.Warmed39 U.vm ∧ U.heap = h0) (fun _ _ _ _ _ => True) (fun _ U o U' => ∃ v L, o = .returned v ∧ Q19 Z A0 E0 FF HD CN MO h0 n0 v U'.heap L ∧ FrameEnd U o U' L ({ frames := 3, cells := 1, slots := 4, locals := 53 } : Room).cells ({ frames := 3, cells := 1, slots := 4, locals := 53 } : Room).slots) := by
  refine MetFree.of_bodySF (plainFor_of_name pn_19) hisR ?_
  intro p e s m args below meth c s₁ Bd hml0 hP hK
  obtain ⟨rfl, hZ, hh⟩ := hP
  have hx := Bd.exec
  have hby := Bd.bytes
  have hml : c.maxLocals = 1 := hml0
  have hown : s.vm.findClass "java/util/ArrayDeque" = some m.cls := findClass_of_methodNamed Bd.named
  have hnm := (name_of_methodNamed Bd.named Bd.method).1
  have X0 : Stand p l e ({ frames := 3, cells := 1, slots := 4, locals := 53 } : Room) s m #[(.ref A0)] below meth c s₁ [] 0 0 := Stand.of_body Bd
  have e0 : s₁.heap = h0 := by rw [← hh, Bd.state]; rfl
  have N0 := Fr.nil n0
  have pre0 : ∀ t, Steps p.tables e below (s₁.setTop (mkF m 0 #[.val (.ref A0)] [])) t → Steps p.tables e below (s₁.setTop (entryFrame m #[(.ref A0)] 1)) t := fun t k => castTop (ef_19 m A0) k
  have K_0 : Keep h0 h0 [] := Keep.refl h0 _
  obtain ⟨T101, X101, e101, st101⟩ := own_ldc X0 hx hZ hown (hw _ (List.mem_of_getElem? (i := 125) rfl)) mO e0 (g := (mkF m 1 #[.val (.ref A0)] [(.ref A0)])) rfl (hb hby d19_1)
  obtain ⟨cq102, q102, q102'⟩ := pm0.cell
  obtain ⟨_, _, ⟨T102, L102, k102, n102⟩, -, X102, ⟨Lc102, hQ102, l102, y102, z102⟩, st102⟩ := X101.privateBack hx (y := (⟨"java/util/ArrayDeque", "toArray", "(Ljava/lang/Class;)[Ljava/lang/Object;"⟩ : MethodName)) hown (mvT hZ (hw _ (List.mem_of_getElem? (i := 127) rfl))) (mvT hZ (hw _ (List.mem_of_getElem? (i := 128) rfl))) (mvT hZ (hw _ (List.mem_of_getElem? (i := 130) rfl))) (Cond.privateMethod_at (mvP hZ (hw _ (List.mem_of_getElem? (i := 129) rfl)) (args := #[]))) (mvT hZ (hw _ (List.mem_of_getElem? (i := 131) rfl))) (by decide) (backOf (W := 0) (rm20 l Z a0 hw [] A0 MO E0 FF HD CN h0 n0 Z0 pm0 pm1 pm2 pm3 pm4 (show own_Dq FF HD CN from hq) (show own_Mi Z "[Ljava/lang/Object;" MO from mO)) hZ (hw _ (List.mem_of_getElem? (i := 131) rfl)) (hw _ (List.mem_of_getElem? (i := 11) rfl)) (by decide) (by decide)) (g := (mkF m 3 #[.val (.ref A0)] [(.ref MO), (.ref A0)])) rfl (by rw [hml]; rfl) (Steps.refl _) (a := A0) (by rw [e101]; exact q102) q102' (argsL := [(.ref MO)]) (rest := []) (lenOf pd_19_0 rfl) rfl (by show 2 * 0 + _ ≤ _; exact Nat.le_of_eq rfl) (hb hby d19_3) (fun _ _ => ⟨rfl, e101, (by decide : 0 + 1 ≤ _), (by decide : 0 + 4 ≤ _)⟩)
  dsimp only [Pt.U, Pt.locs, Pt.cells, Pt.slots] at X102 l102 y102 z102 st102 hQ102
  subst l102 y102 z102
  obtain ⟨x102_R0, rfl, N102q, K102, lb102_0, p102_0⟩ := hQ102
  have N102 := Fr.app N0 N102q
  have ne103 : A0 ≠ x102_R0 := Nat.ne_of_lt (Nat.lt_of_lt_of_le pm0.lt lb102_0)
  have ne104 : E0 ≠ x102_R0 := Nat.ne_of_lt (Nat.lt_of_lt_of_le pm4.lt lb102_0)
  have g_x102_R0 : n0 ≤ x102_R0 := Nat.le_trans Z0 lb102_0
  have sz_x102_R0 : h0.size ≤ x102_R0 := Nat.le_trans K_0.1 lb102_0
  have Z105 : n0 ≤ T102.heap.size := Nat.le_trans Z0 K102.1
  have K_105 : Keep h0 T102.heap [] := K_0.trans K102 all0
  have pre106 : ∀ t, Steps p.tables e below (T102.setTop (mkF m 6 #[.val (.ref A0)] [(.ref x102_R0)])) t → Steps p.tables e below (s₁.setTop (entryFrame m #[(.ref A0)] 1)) t := fun t kt => pre0 t (by
      show Steps p.tables e below (s₁.setTop (mkF m 0 #[.val (.ref A0)] [])) _
      refine XS.aloadN X0.here hx rfl (hb hby d19_0) rfl rfl ?_
      show Steps p.tables e below (s₁.setTop (mkF m 1 #[.val (.ref A0)] [(.ref A0)])) _
      refine st101 _ ?_
      show Steps p.tables e below (T101.setTop (mkF m 3 #[.val (.ref A0)] [(.ref MO), (.ref A0)])) _
      refine st102.trans ?_
      exact kt)
  obtain ⟨fs, hr, hrun, hended, hW, hsame⟩ := X102.leave (v := some (.ref x102_R0)) (fun h => by rw [Bd.returns] at h; cases h)
  refine ⟨_, _, pre106 _ ?_, hrun, hended, _, _, rfl, ?_, ⟨_, rfl⟩, hW, hsame.mono (by decide) (by decide)⟩
  · show Steps p.tables e below (T102.setTop (mkF m 6 #[.val (.ref A0)] [(.ref x102_R0)])) _
    exact retOut X102 hx Bd.returns rfl (Or.inr (Or.inr (Or.inr (Or.inr ⟨rfl, rfl, rfl⟩)))) (hb hby d19_6) hr
  · show Q19 Z A0 E0 FF HD CN MO h0 n0 _ T102.heap _
    exact ⟨x102_R0, rfl, N102, K_105, sz_x102_R0, p102_0⟩
theorem d17_0 : decode jdk_38_method_3_code 0 = .ok (.aload_n 0, 1) := by decide +kernel
theorem d17_1 : decode jdk_38_method_3_code 1 = .ok (.invokespecial 1, 3) := by decide +kernel
theorem d17_4 : decode jdk_38_method_3_code 4 = .ok (.aload_n 1, 1) := by decide +kernel
theorem d17_5 : decode jdk_38_method_3_code 5 = .ok (.invokeinterface 42 1, 5) := by decide +kernel
theorem d17_10 : decode jdk_38_method_3_code 10 = .ok (.astore_n 2, 1) := by decide +kernel
theorem d17_11 : decode jdk_38_method_3_code 11 = .ok (.aload_n 0, 1) := by decide +kernel
theorem d17_12 : decode jdk_38_method_3_code 12 = .ok (.aload_n 2, 1) := by decide +kernel
theorem d17_13 : decode jdk_38_method_3_code 13 = .ok (.arraylength, 1) := by decide +kernel
theorem d17_14 : decode jdk_38_method_3_code 14 = .ok (.dup_x1, 1) := by decide +kernel
theorem d17_15 : decode jdk_38_method_3_code 15 = .ok (.putfield 48, 3) := by decide +kernel
theorem d17_18 : decode jdk_38_method_3_code 18 = .ok (.ifCond .eq 39, 3) := by decide +kernel
theorem d17_21 : decode jdk_38_method_3_code 21 = .ok (.aload_n 1, 1) := by decide +kernel
theorem d17_22 : decode jdk_38_method_3_code 22 = .ok (.invokeinterface 52 1, 5) := by decide +kernel
theorem d17_27 : decode jdk_38_method_3_code 27 = .ok (.ldc 10, 2) := by decide +kernel
theorem d17_29 : decode jdk_38_method_3_code 29 = .ok (.if_acmp .ne 11, 3) := by decide +kernel
theorem d17_32 : decode jdk_38_method_3_code 32 = .ok (.aload_n 0, 1) := by decide +kernel
theorem d17_33 : decode jdk_38_method_3_code 33 = .ok (.aload_n 2, 1) := by decide +kernel
theorem d17_34 : decode jdk_38_method_3_code 34 = .ok (.putfield 9, 3) := by decide +kernel
theorem d17_37 : decode jdk_38_method_3_code 37 = .ok (.goto 27, 3) := by decide +kernel
theorem d17_40 : decode jdk_38_method_3_code 40 = .ok (.aload_n 0, 1) := by decide +kernel
theorem d17_41 : decode jdk_38_method_3_code 41 = .ok (.aload_n 2, 1) := by decide +kernel
theorem d17_42 : decode jdk_38_method_3_code 42 = .ok (.aload_n 0, 1) := by decide +kernel
theorem d17_43 : decode jdk_38_method_3_code 43 = .ok (.getfield 48, 3) := by decide +kernel
theorem d17_46 : decode jdk_38_method_3_code 46 = .ok (.ldc 56, 2) := by decide +kernel
theorem d17_48 : decode jdk_38_method_3_code 48 = .ok (.invokestatic 57, 3) := by decide +kernel
theorem d17_51 : decode jdk_38_method_3_code 51 = .ok (.putfield 9, 3) := by decide +kernel
theorem d17_54 : decode jdk_38_method_3_code 54 = .ok (.goto 10, 3) := by decide +kernel
theorem d17_57 : decode jdk_38_method_3_code 57 = .ok (.aload_n 0, 1) := by decide +kernel
theorem d17_58 : decode jdk_38_method_3_code 58 = .ok (.getstatic 15, 3) := by decide +kernel
theorem d17_61 : decode jdk_38_method_3_code 61 = .ok (.putfield 9, 3) := by decide +kernel
theorem d17_64 : decode jdk_38_method_3_code 64 = .ok (.return_, 1) := by decide +kernel
theorem pn_17 : plainName "java/util/ArrayList" = true := by first | (simp [plainName, overriddenIn]; done) | decide +kernel
theorem pd_17_0 : parseMethodDescriptor "()V" = some ⟨[], none⟩ := by decide +kernel
theorem pd_17_1 : parseMethodDescriptor "()[Ljava/lang/Object;" = some ⟨[], some (.array (.object "java/lang/Object"))⟩ := by decide +kernel
theorem pd_17_2 : parseMethodDescriptor "([Ljava/lang/Object;ILjava/lang/Class;)[Ljava/lang/Object;" = some ⟨[(.array (.object "java/lang/Object")), .int, (.object "java/lang/Class")], some (.array (.object "java/lang/Object"))⟩ := by decide +kernel
theorem ef_17 (m : MethodId) (A0 : Addr) (A1 : Addr) : entryFrame m #[(.ref A0), (.ref A1)] 3 = mkF m 0 #[.val (.ref A0), .val (.ref A1), .unset] [] := by first | (simp [entryFrame, mkF, argsToLocals, Value.category]; done) | rfl
def Q17 (Z : State) (A0 : Addr) (A1 : Addr) (E0 : Addr) (FF : Nat → Value) (HD : Nat) (CN : Nat) (MO : Addr) (MA : Addr) (ML : Addr) (U1 : Addr) (h0 : Heap) (n0 : Nat) (v : Option Value) (h : Heap) (L : List Loc) : Prop := (v = none) ∧ (Fr n0 L) ∧ (Keep h0 h [A0]) ∧ (Exa Z h A0 "java/util/ArrayList")
set_option maxRecDepth 65536 in
set_option maxHeartbeats 40000000 in
theorem rm17 (l : Launch) (Z : State) (a0 : Array Value) (hw : ∀ d ∈ tables_1, d.before a0 Z = true) (ws : List Jvm.Cond) (A0 : Addr) (A1 : Addr) (E0 : Addr) (FF : Nat → Value) (HD : Nat) (CN : Nat) (MO : Addr) (MA : Addr) (ML : Addr) (U1 : Addr) (h0 : Heap) (n0 : Nat) (Z0 : n0 ≤ h0.size) (pm0 : Exa Z h0 A0 "java/util/ArrayList") (pm1 : Fld Z h0 A0 "java/util/AbstractList" "modCount" "I" (.int (0 : Int32))) (pm2 : Fld Z h0 A0 "java/util/ArrayList" "size" "I" (.int (0 : Int32))) (pm3 : Fld Z h0 A0 "java/util/ArrayList" "elementData" "[Ljava/lang/Object;" .null) (pm4 : Exa Z h0 A1 "java/util/ArrayDeque") (pm5 : Fld Z h0 A1 "java/util/ArrayDeque" "elements" "[Ljava/lang/Object;" (.ref E0)) (pm6 : Fld Z h0 A1 "java/util/ArrayDeque" "head" "I" (.int (Int32.ofNat HD))) (pm7 : Fld Z h0 A1 "java/util/ArrayDeque" "tail" "I" (.int (Int32.ofNat ((HD + CN) % 17)))) (pm8 : own_El Z h0 E0 FF) (hq : own_Dq FF HD CN) (pm10 : Sta Z h0 "java/util/ArrayList" "EMPTY_ELEMENTDATA" "[Ljava/lang/Object;" (.ref U1)) (mO : own_Mi Z "[Ljava/lang/Object;" MO) (mA : own_Mi Z "java/util/ArrayDeque" MA) (mL : own_Mi Z "java/util/ArrayList" ML) (n1 : A0 ≠ A1) (n2 : A0 ≠ E0) (g_A0 : n0 ≤ A0) :
    MetFree l (⟨"java/util/ArrayList", "<init>", "(Ljava/util/Collection;)V"⟩ : MethodName) (head1 (Jvm.Cond.code (⟨"java/util/ArrayList", "<init>", "(Ljava/util/Collection;)V"⟩ : MethodName) jdk_38_method_3_code 3 none :: ws) ({ frames := 4, cells := 2, slots := 8, locals := 65 } : Room)) (fun a U => a = #[(.ref A0), (.ref A1)] ∧ Z.Warmed39 U.vm ∧ U.heap = h0) (fun _ _ _ _ _ => True) (fun _ U o U' => ∃ v L, o = .returned v ∧ Q17 Z A0 A1 E0 FF HD CN MO MA ML U1 h0 n0 v U'.heap L ∧ FrameEnd U o U' L ({ frames := 4, cells := 2, slots := 8, locals := 65 } : Room).cells ({ frames := 4, cells := 2, slots := 8, locals := 65 } : Room).slots) := by
  refine MetFree.of_bodySF (plainFor_of_name pn_17) hisR ?_
  intro p e s m args below meth c s₁ Bd hml0 hP hK
  obtain ⟨rfl, hZ, hh⟩ := hP
  have hx := Bd.exec
  have hby := Bd.bytes
  have hml : c.maxLocals = 3 := hml0
  have hown : s.vm.findClass "java/util/ArrayList" = some m.cls := findClass_of_methodNamed Bd.named
  have hnm := (name_of_methodNamed Bd.named Bd.method).1
  have X0 : Stand p l e ({ frames := 4, cells := 2, slots := 8, locals := 65 } : Room) s m #[(.ref A0), (.ref A1)] below meth c s₁ [] 0 0 := Stand.of_body Bd
  have e0 : s₁.heap = h0 := by rw [← hh, Bd.state]; rfl
  have N0 := Fr.nil n0
  have pre0 : ∀ t, Steps p.tables e below (s₁.setTop (mkF m 0 #[.val (.ref A0), .val (.ref A1), .unset] [])) t → Steps p.tables e below (s₁.setTop (entryFrame m #[(.ref A0), (.ref A1)] 3)) t := fun t k => castTop (ef_17 m A0 A1) k
  have K_0 : Keep h0 h0 [A0] := Keep.refl h0 _
  have hq1 := hq.1
  have hq2 := hq.2.1
  obtain ⟨_, _, ⟨T101, L101, k101, n101⟩, -, X101, ⟨Lc101, hQ101, l101, y101, z101⟩, st101⟩ := X0.specialBack hx (y := (⟨"java/util/AbstractList", "<init>", "()V"⟩ : MethodName)) rfl hown (mvT hZ (hw _ (List.mem_of_getElem? (i := 106) rfl))) (mvT hZ (hw _ (List.mem_of_getElem? (i := 107) rfl))) (mvT hZ (hw _ (List.mem_of_getElem? (i := 111) rfl))) (by decide) (backOf (W := 0) (rm18 l Z a0 hw [] A0 (0 : Int32) h0 n0 Z0 pm0 pm1 pm2 pm3 g_A0) hZ (hw _ (List.mem_of_getElem? (i := 111) rfl)) (hw _ (List.mem_of_getElem? (i := 110) rfl)) (by decide) (by decide)) (g := (mkF m 1 #[.val (.ref A0), .val (.ref A1), .unset] [(.ref A0)])) rfl (by rw [hml]; rfl) (Steps.refl _) (a := A0) (argsL := []) (rest := []) (lenOf pd_17_0 rfl) rfl (by show 2 * 0 + _ ≤ _; exact Nat.le_of_eq rfl) (hb hby d17_1) (fun _ _ => ⟨rfl, e0, (by decide : 0 + 0 ≤ _), (by decide : 0 + 0 ≤ _)⟩)
  dsimp only [Pt.U, Pt.locs, Pt.cells, Pt.slots] at X101 l101 y101 z101 st101 hQ101
  subst l101 y101 z101
  obtain ⟨rfl, N101q, K101, p101_0, p101_1, p101_2, p101_3⟩ := hQ101
  have N101 := Fr.app N0 N101q
  have Z102 : n0 ≤ T101.heap.size := Nat.le_trans Z0 K101.1
  have K_102 : Keep h0 T101.heap [A0] := K_0.trans K101 (allS (Or.inl (List.mem_of_getElem? (i := 0) rfl)) all0)
  have ss101_0 : Sta Z T101.heap "java/util/ArrayList" "EMPTY_ELEMENTDATA" "[Ljava/lang/Object;" (.ref U1) := own_sta_keep pm10 K101 (allS (own_ns pm0) all0)
  have c103 : Exa Z T101.heap A1 "java/util/ArrayDeque" := (pm4.keep K101)
  have c104 : Fld Z T101.heap A1 "java/util/ArrayDeque" "elements" "[Ljava/lang/Object;" (.ref E0) := (pm5.keep K101 (ninS (Ne.symm n1) nin0))
  have c105 : Fld Z T101.heap A1 "java/util/ArrayDeque" "head" "I" (.int (Int32.ofNat HD)) := (pm6.keep K101 (ninS (Ne.symm n1) nin0))
  have c106 : Fld Z T101.heap A1 "java/util/ArrayDeque" "tail" "I" (.int (Int32.ofNat ((HD + CN) % 17))) := (pm7.keep K101 (ninS (Ne.symm n1) nin0))
  have c107 : own_El Z T101.heap E0 FF := (pm8.keep K101 (ninS (Ne.symm n2) nin0))
  obtain ⟨cq108, kq108, q108a, q108b, q108c⟩ := isOf hZ rfl c103
  obtain ⟨_, _, ⟨T108, L108, k108, n108⟩, -, X108, ⟨Lc108, hQ108, l108, y108, z108⟩, st108⟩ := X101.interfaceBack hx (xi := (⟨"java/util/Collection", "toArray", "()[Ljava/lang/Object;"⟩ : MethodName)) (y := (⟨"java/util/ArrayDeque", "toArray", "()[Ljava/lang/Object;"⟩ : MethodName)) hown (mvT hZ (hw _ (List.mem_of_getElem? (i := 116) rfl))) (mvT hZ (hw _ (List.mem_of_getElem? (i := 117) rfl))) (mvT hZ (hw _ (List.mem_of_getElem? (i := 118) rfl))) (mvT hZ (hw _ (List.mem_of_getElem? (i := 119) rfl))) (mvT hZ (hw _ (List.mem_of_getElem? (i := 120) rfl))) (mvT hZ (hw _ (List.mem_of_getElem? (i := 121) rfl))) (mvT hZ (hw _ (List.mem_of_getElem? (i := 122) rfl))) (mvT hZ (hw _ (List.mem_of_getElem? (i := 123) rfl))) (by decide) (backOf (W := 0) (rm19 l Z a0 hw [] A1 E0 FF HD CN MO T101.heap n0 Z102 c103 c104 c105 c106 c107 (show own_Dq FF HD CN from hq) (show own_Mi Z "[Ljava/lang/Object;" MO from mO)) hZ (hw _ (List.mem_of_getElem? (i := 124) rfl)) (hw _ (List.mem_of_getElem? (i := 11) rfl)) (by decide) (by decide)) q108a q108b q108c (g := (mkF m 5 #[.val (.ref A0), .val (.ref A1), .unset] [(.ref A1)])) rfl (by rw [hml]; rfl) (Steps.refl _) (argsL := []) (rest := []) (lenOf pd_17_1 rfl) rfl (by show 2 * 0 + _ ≤ _; exact Nat.le_of_eq rfl) (hb hby d17_5) (fun _ _ => ⟨rfl, rfl, (by decide : 0 + 1 ≤ _), (by decide : 0 + 4 ≤ _)⟩)
  dsimp only [Pt.U, Pt.locs, Pt.cells, Pt.slots] at X108 l108 y108 z108 st108 hQ108
  subst l108 y108 z108
  obtain ⟨x108_R0, rfl, N108q, K108, lb108_0, p108_0⟩ := hQ108
  have N108 := Fr.app N101 N108q
  have ne109 : A0 ≠ x108_R0 := Nat.ne_of_lt (Nat.lt_of_lt_of_le p101_0.lt lb108_0)
  have ne110 : A1 ≠ x108_R0 := Nat.ne_of_lt (Nat.lt_of_lt_of_le c103.lt lb108_0)
  have ne111 : E0 ≠ x108_R0 := Nat.ne_of_lt (Nat.lt_of_lt_of_le c107.lt lb108_0)
  have g_x108_R0 : n0 ≤ x108_R0 := Nat.le_trans Z102 lb108_0
  have sz_x108_R0 : h0.size ≤ x108_R0 := Nat.le_trans K_102.1 lb108_0
  have Z112 : n0 ≤ T108.heap.size := Nat.le_trans Z102 K108.1
  have K_112 : Keep h0 T108.heap [A0] := K_102.trans K108 all0
  have ss108_0 : Sta Z T108.heap "java/util/ArrayList" "EMPTY_ELEMENTDATA" "[Ljava/lang/Object;" (.ref U1) := own_sta_keep ss101_0 K108 all0
  obtain ⟨-, cl113, -, Ar113, -, S113, -, -⟩ := id p108_0
  have c114 : Exa Z T108.heap A0 "java/util/ArrayList" := (p101_0.keep K108)
  have c115 : Fld Z T108.heap A0 "java/util/ArrayList" "size" "I" (.int (0 : Int32)) := (p101_2.keep K108 nin0)
  obtain ⟨T116, h116, X116, e116, W116, st116⟩ := putF X108 hx hZ hown (host := "") (Or.inl (hw _ (List.mem_of_getElem? (i := 146) rfl))) Via.refl rfl c115 c114 (Or.inl (hw _ (List.mem_of_getElem? (i := 147) rfl))) (hw _ (List.mem_of_getElem? (i := 101) rfl)) (ty := .int) (by decide) rfl rfl (g := (mkF m 15 #[.val (.ref A0), .val (.ref A1), .val (.ref x108_R0)] [(.int (Int32.ofNat CN)), (.ref A0), (.int (Int32.ofNat CN))])) rfl rfl (hb hby d17_15)
  have Z117 : n0 ≤ h116.size := Nat.le_trans Z112 (Nat.le_of_eq W116.size.symm)
  have K_117 : Keep h0 h116 [A0] := K_112.wr W116 (Or.inl (List.mem_of_getElem? (i := 0) rfl))
  have Fw116 : Fld Z h116 A0 "java/util/ArrayList" "size" "I" (.int (Int32.ofNat CN)) := c115.same W116
  have N116 := Fr.snoc X116 N108 g_A0
  have pre118 : ∀ t, Steps p.tables e below (T116.setTop (mkF m 18 #[.val (.ref A0), .val (.ref A1), .val (.ref x108_R0)] [(.int (Int32.ofNat CN))])) t → Steps p.tables e below (s₁.setTop (entryFrame m #[(.ref A0), (.ref A1)] 3)) t := fun t kt => pre0 t (by
      show Steps p.tables e below (s₁.setTop (mkF m 0 #[.val (.ref A0), .val (.ref A1), .unset] [])) _
      refine XS.aloadN X0.here hx rfl (hb hby d17_0) rfl rfl ?_
      show Steps p.tables e below (s₁.setTop (mkF m 1 #[.val (.ref A0), .val (.ref A1), .unset] [(.ref A0)])) _
      refine st101.trans ?_
      show Steps p.tables e below (T101.setTop (mkF m 4 #[.val (.ref A0), .val (.ref A1), .unset] [])) _
      refine XS.aloadN X101.here hx rfl (hb hby d17_4) rfl rfl ?_
      show Steps p.tables e below (T101.setTop (mkF m 5 #[.val (.ref A0), .val (.ref A1), .unset] [(.ref A1)])) _
      refine st108.trans ?_
      show Steps p.tables e below (T108.setTop (mkF m 10 #[.val (.ref A0), .val (.ref A1), .unset] [(.ref x108_R0)])) _
      refine XS.astoreN X108.here hx rfl (hb hby d17_10) rfl rfl (l' := #[.val (.ref A0), .val (.ref A1), .val (.ref x108_R0)]) rfl ?_
      show Steps p.tables e below (T108.setTop (mkF m 11 #[.val (.ref A0), .val (.ref A1), .val (.ref x108_R0)] [])) _
      refine XS.aloadN X108.here hx rfl (hb hby d17_11) rfl rfl ?_
      show Steps p.tables e below (T108.setTop (mkF m 12 #[.val (.ref A0), .val (.ref A1), .val (.ref x108_R0)] [(.ref A0)])) _
      refine XS.aloadN X108.here hx rfl (hb hby d17_12) rfl rfl ?_
      show Steps p.tables e below (T108.setTop (mkF m 13 #[.val (.ref A0), .val (.ref A1), .val (.ref x108_R0)] [(.ref x108_R0), (.ref A0)])) _
      refine X108.arraylength hx Ar113.1 (State.isArrayOf_alike hZ.alike Ar113.2.1) (g := (mkF m 13 #[.val (.ref A0), .val (.ref A1), .val (.ref x108_R0)] [(.ref x108_R0), (.ref A0)])) rfl rfl (hb hby d17_13) _ ?_
      rw [show cl113.slots.size.toInt32 = (Int32.ofNat CN) from by rw [S113] <;> rfl]
      show Steps p.tables e below (T108.setTop (mkF m 14 #[.val (.ref A0), .val (.ref A1), .val (.ref x108_R0)] [(.int (Int32.ofNat CN)), (.ref A0)])) _
      refine XS.dupX1 X108.here hx rfl (hb hby d17_14) rfl rfl rfl ?_
      show Steps p.tables e below (T108.setTop (mkF m 15 #[.val (.ref A0), .val (.ref A1), .val (.ref x108_R0)] [(.int (Int32.ofNat CN)), (.ref A0), (.int (Int32.ofNat CN))])) _
      refine st116 _ ?_
      exact kt)
  by_cases hc18 : (Int32.ofNat CN) = (0 : Int32)
  · have c119 : Sta Z h116 "java/util/ArrayList" "EMPTY_ELEMENTDATA" "[Ljava/lang/Object;" (.ref U1) := (ss108_0.wr W116)
    obtain ⟨T120, X120, e120, st120⟩ := getS2 X116 hx hZ hown (host := "") (Or.inl (hw _ (List.mem_of_getElem? (i := 148) rfl))) Via.refl e116 c119 (g := (mkF m 58 #[.val (.ref A0), .val (.ref A1), .val (.ref x108_R0)] [(.ref A0)])) rfl (hb hby d17_58)
    have c121 : Exa Z h116 A0 "java/util/ArrayList" := (c114.wr W116)
    have c122 : Fld Z h116 A0 "java/util/ArrayList" "elementData" "[Ljava/lang/Object;" .null := ((p101_3.keep K108 nin0).other W116 (Or.inr (slot_ne (Or.inl (hw _ (List.mem_of_getElem? (i := 150) rfl))) (Or.inl (hw _ (List.mem_of_getElem? (i := 147) rfl))) (by decide) (t := (.array (.object "java/lang/Object"))) (t' := .int) (by decide) (by decide))))
    obtain ⟨T123, h123, X123, e123, W123, st123⟩ := putF X120 hx hZ hown (host := "") (Or.inl (hw _ (List.mem_of_getElem? (i := 149) rfl))) Via.refl e120 c122 c121 (Or.inl (hw _ (List.mem_of_getElem? (i := 150) rfl))) (hw _ (List.mem_of_getElem? (i := 101) rfl)) (ty := (.array (.object "java/lang/Object"))) (by decide) rfl rfl (g := (mkF m 61 #[.val (.ref A0), .val (.ref A1), .val (.ref x108_R0)] [(.ref U1), (.ref A0)])) rfl rfl (hb hby d17_61)
    have Z124 : n0 ≤ h123.size := Nat.le_trans Z117 (Nat.le_of_eq W123.size.symm)
    have K_124 : Keep h0 h123 [A0] := K_117.wr W123 (Or.inl (List.mem_of_getElem? (i := 0) rfl))
    have Fw123 : Fld Z h123 A0 "java/util/ArrayList" "elementData" "[Ljava/lang/Object;" (.ref U1) := c122.same W123
    have N123 := Fr.snoc X123 N116 g_A0
    have pre125 : ∀ t, Steps p.tables e below (T123.setTop (mkF m 64 #[.val (.ref A0), .val (.ref A1), .val (.ref x108_R0)] [])) t → Steps p.tables e below (s₁.setTop (entryFrame m #[(.ref A0), (.ref A1)] 3)) t := fun t kt => pre118 t (by
        show Steps p.tables e below (T116.setTop (mkF m 18 #[.val (.ref A0), .val (.ref A1), .val (.ref x108_R0)] [(.int (Int32.ofNat CN))])) _
        refine XS.ifYes X116.here hx rfl (pc0 := 18) (pc' := 57) rfl (hb hby d17_18) rfl ((if0 _ _).trans (teq hc18).1) (by decide) (by decide) ?_
        show Steps p.tables e below (T116.setTop (mkF m 57 #[.val (.ref A0), .val (.ref A1), .val (.ref x108_R0)] [])) _
        refine XS.aloadN X116.here hx rfl (hb hby d17_57) rfl rfl ?_
        show Steps p.tables e below (T116.setTop (mkF m 58 #[.val (.ref A0), .val (.ref A1), .val (.ref x108_R0)] [(.ref A0)])) _
        refine st120 _ ?_
        show Steps p.tables e below (T120.setTop (mkF m 61 #[.val (.ref A0), .val (.ref A1), .val (.ref x108_R0)] [(.ref U1), (.ref A0)])) _
        refine st123 _ ?_
        exact kt)
    have c126 : Exa Z h123 A0 "java/util/ArrayList" := (c121.wr W123)
    obtain ⟨fs, hr, hrun, hended, hW, hsame⟩ := X123.leave (v := none) (fun _ => rfl)
    refine ⟨_, _, pre125 _ ?_, hrun, hended, _, _, rfl, ?_, ⟨_, rfl⟩, hW, hsame.mono (by decide) (by decide)⟩
    · show Steps p.tables e below (T123.setTop (mkF m 64 #[.val (.ref A0), .val (.ref A1), .val (.ref x108_R0)] [])) _
      exact X123.returnOut hx Bd.returns (hb hby d17_64) hr
    · show Q17 Z A0 A1 E0 FF HD CN MO MA ML U1 h0 n0 _ T123.heap _
      rw [e123]
      exact ⟨rfl, N123, K_124, c126⟩
  · have c127 : Exa Z h116 A1 "java/util/ArrayDeque" := ((c103.keep K108).wr W116)
    obtain ⟨T128, X128, e128, st128⟩ := own_gc X116 hx hZ hown (hw _ (List.mem_of_getElem? (i := 177) rfl)) (hw _ (List.mem_of_getElem? (i := 178) rfl)) (hw _ (List.mem_of_getElem? (i := 179) rfl)) (hw _ (List.mem_of_getElem? (i := 180) rfl)) (hw _ (List.mem_of_getElem? (i := 181) rfl)) (hw _ (List.mem_of_getElem? (i := 182) rfl)) (hw _ (List.mem_of_getElem? (i := 183) rfl)) (hw _ (List.mem_of_getElem? (i := 123) rfl)) (hw _ (List.mem_of_getElem? (i := 184) rfl)) c127 mA e116 (g := (mkF m 22 #[.val (.ref A0), .val (.ref A1), .val (.ref x108_R0)] [(.ref A1)])) rfl (by rw [hml]; rfl) rfl (hb hby d17_22) (by decide) (by show 2 * 0 + 0 + (nativeFrameWords "java/lang/Object" "getClass" 1 + 11) ≤ _; decide)
    obtain ⟨T129, X129, e129, st129⟩ := own_ldc X128 hx hZ hown (hw _ (List.mem_of_getElem? (i := 186) rfl)) mL e128 (g := (mkF m 27 #[.val (.ref A0), .val (.ref A1), .val (.ref x108_R0)] [(.ref MA)])) rfl (hb hby d17_27)
    have pre130 : ∀ t, Steps p.tables e below (T129.setTop (mkF m 29 #[.val (.ref A0), .val (.ref A1), .val (.ref x108_R0)] [(.ref ML), (.ref MA)])) t → Steps p.tables e below (s₁.setTop (entryFrame m #[(.ref A0), (.ref A1)] 3)) t := fun t kt => pre118 t (by
        show Steps p.tables e below (T116.setTop (mkF m 18 #[.val (.ref A0), .val (.ref A1), .val (.ref x108_R0)] [(.int (Int32.ofNat CN))])) _
        refine XS.ifNo X116.here hx rfl (hb hby d17_18) rfl ((if0 _ _).trans (feq hc18).1) ?_
        show Steps p.tables e below (T116.setTop (mkF m 21 #[.val (.ref A0), .val (.ref A1), .val (.ref x108_R0)] [])) _
        refine XS.aloadN X116.here hx rfl (hb hby d17_21) rfl rfl ?_
        show Steps p.tables e below (T116.setTop (mkF m 22 #[.val (.ref A0), .val (.ref A1), .val (.ref x108_R0)] [(.ref A1)])) _
        refine st128 _ ?_
        show Steps p.tables e below (T128.setTop (mkF m 27 #[.val (.ref A0), .val (.ref A1), .val (.ref x108_R0)] [(.ref MA)])) _
        refine st129 _ ?_
        exact kt)
    by_cases hc29 : MA = ML
    · have c131 : Exa Z h116 A0 "java/util/ArrayList" := (c114.wr W116)
      have c132 : Fld Z h116 A0 "java/util/ArrayList" "elementData" "[Ljava/lang/Object;" .null := ((p101_3.keep K108 nin0).other W116 (Or.inr (slot_ne (Or.inl (hw _ (List.mem_of_getElem? (i := 150) rfl))) (Or.inl (hw _ (List.mem_of_getElem? (i := 147) rfl))) (by decide) (t := (.array (.object "java/lang/Object"))) (t' := .int) (by decide) (by decide))))
      obtain ⟨T133, h133, X133, e133, W133, st133⟩ := putF X129 hx hZ hown (host := "") (Or.inl (hw _ (List.mem_of_getElem? (i := 149) rfl))) Via.refl e129 c132 c131 (Or.inl (hw _ (List.mem_of_getElem? (i := 150) rfl))) (hw _ (List.mem_of_getElem? (i := 101) rfl)) (ty := (.array (.object "java/lang/Object"))) (by decide) rfl rfl (g := (mkF m 34 #[.val (.ref A0), .val (.ref A1), .val (.ref x108_R0)] [(.ref x108_R0), (.ref A0)])) rfl rfl (hb hby d17_34)
      have Z134 : n0 ≤ h133.size := Nat.le_trans Z117 (Nat.le_of_eq W133.size.symm)
      have K_134 : Keep h0 h133 [A0] := K_117.wr W133 (Or.inl (List.mem_of_getElem? (i := 0) rfl))
      have Fw133 : Fld Z h133 A0 "java/util/ArrayList" "elementData" "[Ljava/lang/Object;" (.ref x108_R0) := c132.same W133
      have N133 := Fr.snoc X133 N116 g_A0
      have pre135 : ∀ t, Steps p.tables e below (T133.setTop (mkF m 64 #[.val (.ref A0), .val (.ref A1), .val (.ref x108_R0)] [])) t → Steps p.tables e below (s₁.setTop (entryFrame m #[(.ref A0), (.ref A1)] 3)) t := fun t kt => pre130 t (by
          show Steps p.tables e below (T129.setTop (mkF m 29 #[.val (.ref A0), .val (.ref A1), .val (.ref x108_R0)] [(.ref ML), (.ref MA)])) _
          refine Jvm.RoadKit.acmp (g := (mkF m 29 #[.val (.ref A0), .val (.ref A1), .val (.ref x108_R0)] [(.ref ML), (.ref MA)])) X129 hx rfl rfl rfl (pc0 := 29) (pc' := 32) (same := true) rfl (hb hby d17_29) rfl (decide_eq_true (congrArg Value.ref hc29)) (by decide) (by decide) ?_
          show Steps p.tables e below (T129.setTop (mkF m 32 #[.val (.ref A0), .val (.ref A1), .val (.ref x108_R0)] [])) _
          refine XS.aloadN X129.here hx rfl (hb hby d17_32) rfl rfl ?_
          show Steps p.tables e below (T129.setTop (mkF m 33 #[.val (.ref A0), .val (.ref A1), .val (.ref x108_R0)] [(.ref A0)])) _
          refine XS.aloadN X129.here hx rfl (hb hby d17_33) rfl rfl ?_
          show Steps p.tables e below (T129.setTop (mkF m 34 #[.val (.ref A0), .val (.ref A1), .val (.ref x108_R0)] [(.ref x108_R0), (.ref A0)])) _
          refine st133 _ ?_
          show Steps p.tables e below (T133.setTop (mkF m 37 #[.val (.ref A0), .val (.ref A1), .val (.ref x108_R0)] [])) _
          refine XS.goto X133.here hx rfl (pc0 := 37) (pc' := 64) rfl (hb hby d17_37) (by decide) (by decide) ?_
          exact kt)
      have c136 : Exa Z h133 A0 "java/util/ArrayList" := (c131.wr W133)
      obtain ⟨fs, hr, hrun, hended, hW, hsame⟩ := X133.leave (v := none) (fun _ => rfl)
      refine ⟨_, _, pre135 _ ?_, hrun, hended, _, _, rfl, ?_, ⟨_, rfl⟩, hW, hsame.mono (by decide) (by decide)⟩
      · show Steps p.tables e below (T133.setTop (mkF m 64 #[.val (.ref A0), .val (.ref A1), .val (.ref x108_R0)] [])) _
        exact X133.returnOut hx Bd.returns (hb hby d17_64) hr
      · show Q17 Z A0 A1 E0 FF HD CN MO MA ML U1 h0 n0 _ T133.heap _
        rw [e133]
        exact ⟨rfl, N133, K_134, c136⟩
    · obtain ⟨T137, X137, e137, st137⟩ := getF X129 hx hZ hown (host := "") (Or.inl (hw _ (List.mem_of_getElem? (i := 146) rfl))) Via.refl e129 Fw116 (g := (mkF m 43 #[.val (.ref A0), .val (.ref A1), .val (.ref x108_R0)] [(.ref A0), (.ref x108_R0), (.ref A0)])) rfl rfl (hb hby d17_43)
      obtain ⟨T138, X138, e138, st138⟩ := own_ldc X137 hx hZ hown (hw _ (List.mem_of_getElem? (i := 188) rfl)) mO e137 (g := (mkF m 46 #[.val (.ref A0), .val (.ref A1), .val (.ref x108_R0)] [(.int (Int32.ofNat CN)), (.ref x108_R0), (.ref A0)])) rfl (hb hby d17_46)
      have c139 : own_Ob Z h116 x108_R0 CN := (p108_0.other W116 (Ne.symm ne109))
      have c140 : Sta Z h116 "java/util/ArrayList" "EMPTY_ELEMENTDATA" "[Ljava/lang/Object;" (.ref U1) := (ss108_0.wr W116)
      obtain ⟨_, _, ⟨T141, L141, k141, n141⟩, -, X141, ⟨Lc141, hQ141, l141, y141, z141⟩, st141⟩ := Jvm.LawKit.callS X138 hx (y := (⟨"java/util/Arrays", "copyOf", "([Ljava/lang/Object;ILjava/lang/Class;)[Ljava/lang/Object;"⟩ : MethodName)) hown (mvT hZ (hw _ (List.mem_of_getElem? (i := 189) rfl))) (mvT hZ (hw _ (List.mem_of_getElem? (i := 190) rfl))) (mvT hZ (hw _ (List.mem_of_getElem? (i := 134) rfl))) (mvT hZ (hw _ (List.mem_of_getElem? (i := 191) rfl))) (by decide) (backOf (W := 1) (rm27 l Z a0 hw [] x108_R0 MO CN h116 n0 Z117 c139 (show CN ≤ 4 from hq2) (show own_Mi Z "[Ljava/lang/Object;" MO from mO)) hZ (hw _ (List.mem_of_getElem? (i := 191) rfl)) (hw _ (List.mem_of_getElem? (i := 134) rfl)) (by decide) (by decide)) (g := (mkF m 48 #[.val (.ref A0), .val (.ref A1), .val (.ref x108_R0)] [(.ref MO), (.int (Int32.ofNat CN)), (.ref x108_R0), (.ref A0)])) rfl (by rw [hml]; rfl) (argsL := [(.ref x108_R0), (.int (Int32.ofNat CN)), (.ref MO)]) (rest := [(.ref A0)]) (lenOf pd_17_2 rfl) rfl (by show 2 * 0 + _ ≤ _; exact Nat.le_of_eq rfl) (hb hby d17_48) (fun _ _ => ⟨rfl, e138, (by decide : 1 + 1 ≤ _), (by decide : 4 + 4 ≤ _)⟩)
      dsimp only [Pt.U, Pt.locs, Pt.cells, Pt.slots] at X141 l141 y141 z141 st141 hQ141
      subst l141 y141 z141
      obtain ⟨x141_R0, rfl, N141q, K141, lb141_0, p141_0⟩ := hQ141
      have N141 := Fr.app N116 N141q
      have c143 : Exa Z h116 A0 "java/util/ArrayList" := (c114.wr W116)
      have ne142 : A0 ≠ x141_R0 := Nat.ne_of_lt (Nat.lt_of_lt_of_le c143.lt lb141_0)
      have ne144 : A1 ≠ x141_R0 := Nat.ne_of_lt (Nat.lt_of_lt_of_le c127.lt lb141_0)
      have c146 : own_El Z h116 E0 FF := ((c107.keep K108 nin0).other W116 (Ne.symm n2))
      have ne145 : E0 ≠ x141_R0 := Nat.ne_of_lt (Nat.lt_of_lt_of_le c146.lt lb141_0)
      have ne147 : x108_R0 ≠ x141_R0 := Nat.ne_of_lt (Nat.lt_of_lt_of_le c139.lt lb141_0)
      have g_x141_R0 : n0 ≤ x141_R0 := Nat.le_trans Z117 lb141_0
      have sz_x141_R0 : h0.size ≤ x141_R0 := Nat.le_trans K_117.1 lb141_0
      have Z148 : n0 ≤ T141.heap.size := Nat.le_trans Z117 K141.1
      have K_148 : Keep h0 T141.heap [A0] := K_117.trans K141 all0
      have ss141_0 : Sta Z T141.heap "java/util/ArrayList" "EMPTY_ELEMENTDATA" "[Ljava/lang/Object;" (.ref U1) := own_sta_keep c140 K141 all0
      have c149 : Exa Z T141.heap A0 "java/util/ArrayList" := (c143.keep K141)
      have c150 : Fld Z T141.heap A0 "java/util/ArrayList" "elementData" "[Ljava/lang/Object;" .null := (((p101_3.keep K108 nin0).other W116 (Or.inr (slot_ne (Or.inl (hw _ (List.mem_of_getElem? (i := 150) rfl))) (Or.inl (hw _ (List.mem_of_getElem? (i := 147) rfl))) (by decide) (t := (.array (.object "java/lang/Object"))) (t' := .int) (by decide) (by decide)))).keep K141 nin0)
      obtain ⟨T151, h151, X151, e151, W151, st151⟩ := putF X141 hx hZ hown (host := "") (Or.inl (hw _ (List.mem_of_getElem? (i := 149) rfl))) Via.refl rfl c150 c149 (Or.inl (hw _ (List.mem_of_getElem? (i := 150) rfl))) (hw _ (List.mem_of_getElem? (i := 101) rfl)) (ty := (.array (.object "java/lang/Object"))) (by decide) rfl rfl (g := (mkF m 51 #[.val (.ref A0), .val (.ref A1), .val (.ref x108_R0)] [(.ref x141_R0), (.ref A0)])) rfl rfl (hb hby d17_51)
      have Z152 : n0 ≤ h151.size := Nat.le_trans Z148 (Nat.le_of_eq W151.size.symm)
      have K_152 : Keep h0 h151 [A0] := K_148.wr W151 (Or.inl (List.mem_of_getElem? (i := 0) rfl))
      have Fw151 : Fld Z h151 A0 "java/util/ArrayList" "elementData" "[Ljava/lang/Object;" (.ref x141_R0) := c150.same W151
      have N151 := Fr.snoc X151 N141 g_A0
      have pre153 : ∀ t, Steps p.tables e below (T151.setTop (mkF m 64 #[.val (.ref A0), .val (.ref A1), .val (.ref x108_R0)] [])) t → Steps p.tables e below (s₁.setTop (entryFrame m #[(.ref A0), (.ref A1)] 3)) t := fun t kt => pre130 t (by
          show Steps p.tables e below (T129.setTop (mkF m 29 #[.val (.ref A0), .val (.ref A1), .val (.ref x108_R0)] [(.ref ML), (.ref MA)])) _
          refine Jvm.RoadKit.acmp (g := (mkF m 29 #[.val (.ref A0), .val (.ref A1), .val (.ref x108_R0)] [(.ref ML), (.ref MA)])) X129 hx rfl rfl rfl (pc0 := 29) (pc' := 40) (same := false) rfl (hb hby d17_29) rfl (decide_eq_false fun q => hc29 (Value.ref.inj q)) (by decide) (by decide) ?_
          show Steps p.tables e below (T129.setTop (mkF m 40 #[.val (.ref A0), .val (.ref A1), .val (.ref x108_R0)] [])) _
          refine XS.aloadN X129.here hx rfl (hb hby d17_40) rfl rfl ?_
          show Steps p.tables e below (T129.setTop (mkF m 41 #[.val (.ref A0), .val (.ref A1), .val (.ref x108_R0)] [(.ref A0)])) _
          refine XS.aloadN X129.here hx rfl (hb hby d17_41) rfl rfl ?_
          show Steps p.tables e below (T129.setTop (mkF m 42 #[.val (.ref A0), .val (.ref A1), .val (.ref x108_R0)] [(.ref x108_R0), (.ref A0)])) _
          refine XS.aloadN X129.here hx rfl (hb hby d17_42) rfl rfl ?_
          show Steps p.tables e below (T129.setTop (mkF m 43 #[.val (.ref A0), .val (.ref A1), .val (.ref x108_R0)] [(.ref A0), (.ref x108_R0), (.ref A0)])) _
          refine st137 _ ?_
          show Steps p.tables e below (T137.setTop (mkF m 46 #[.val (.ref A0), .val (.ref A1), .val (.ref x108_R0)] [(.int (Int32.ofNat CN)), (.ref x108_R0), (.ref A0)])) _
          refine st138 _ ?_
          show Steps p.tables e below (T138.setTop (mkF m 48 #[.val (.ref A0), .val (.ref A1), .val (.ref x108_R0)] [(.ref MO), (.int (Int32.ofNat CN)), (.ref x108_R0), (.ref A0)])) _
          refine st141 _ ?_
          show Steps p.tables e below (T141.setTop (mkF m 51 #[.val (.ref A0), .val (.ref A1), .val (.ref x108_R0)] [(.ref x141_R0), (.ref A0)])) _
          refine st151 _ ?_
          show Steps p.tables e below (T151.setTop (mkF m 54 #[.val (.ref A0), .val (.ref A1), .val (.ref x108_R0)] [])) _
          refine XS.goto X151.here hx rfl (pc0 := 54) (pc' := 64) rfl (hb hby d17_54) (by decide) (by decide) ?_
          exact kt)
      have c154 : Exa Z h151 A0 "java/util/ArrayList" := (c149.wr W151)
      obtain ⟨fs, hr, hrun, hended, hW, hsame⟩ := X151.leave (v := none) (fun _ => rfl)
      refine ⟨_, _, pre153 _ ?_, hrun, hended, _, _, rfl, ?_, ⟨_, rfl⟩, hW, hsame.mono (by decide) (by decide)⟩
      · show Steps p.tables e below (T151.setTop (mkF m 64 #[.val (.ref A0), .val (.ref A1), .val (.ref x108_R0)] [])) _
        exact X151.returnOut hx Bd.returns (hb hby d17_64) hr
      · show Q17 Z A0 A1 E0 FF HD CN MO MA ML U1 h0 n0 _ T151.heap _
        rw [e151]
        exact ⟨rfl, N151, K_152, c154⟩
theorem d16_0 : decode prog_14_method_6_code 0 = .ok (.new 40, 3) := by decide +kernel
theorem d16_3 : decode prog_14_method_6_code 3 = .ok (.dup, 1) := by decide +kernel
theorem d16_4 : decode prog_14_method_6_code 4 = .ok (.aload_n 0, 1) := by decide +kernel
theorem d16_5 : decode prog_14_method_6_code 5 = .ok (.getfield 10, 3) := by decide +kernel
theorem d16_8 : decode prog_14_method_6_code 8 = .ok (.invokespecial 42, 3) := by decide +kernel
theorem d16_11 : decode prog_14_method_6_code 11 = .ok (.astore_n 1, 1) := by decide +kernel
theorem d16_12 : decode prog_14_method_6_code 12 = .ok (.aload_n 0, 1) := by decide +kernel
theorem d16_13 : decode prog_14_method_6_code 13 = .ok (.getfield 10, 3) := by decide +kernel
theorem d16_16 : decode prog_14_method_6_code 16 = .ok (.invokeinterface 45 1, 5) := by decide +kernel
theorem d16_21 : decode prog_14_method_6_code 21 = .ok (.aload_n 0, 1) := by decide +kernel
theorem d16_22 : decode prog_14_method_6_code 22 = .ok (.iconst 0, 1) := by decide +kernel
theorem d16_23 : decode prog_14_method_6_code 23 = .ok (.putfield 26, 3) := by decide +kernel
theorem d16_26 : decode prog_14_method_6_code 26 = .ok (.aload_n 1, 1) := by decide +kernel
theorem d16_27 : decode prog_14_method_6_code 27 = .ok (.areturn, 1) := by decide +kernel
theorem pn_16 : plainName "com/example/brigid/brigid/core/WaitingLine" = true := by first | (simp [plainName, overriddenIn]; done) | decide +kernel
theorem pd_16_0 : parseMethodDescriptor "(Ljava/util/Collection;)V" = some ⟨[(.object "java/util/Collection")], none⟩ := by decide +kernel
theorem pd_16_1 : parseMethodDescriptor "()V" = some ⟨[], none⟩ := by decide +kernel
theorem ef_16 (m : MethodId) (A0 : Addr) : entryFrame m #[(.ref A0)] 2 = mkF m 0 #[.val (.ref A0), .unset] [] := by first | (simp [entryFrame, mkF, argsToLocals, Value.category]; done) | rfl
def Q16 (Z : State) (A0 : Addr) (D0 : Addr) (E0 : Addr) (FF : Nat → Value) (HD : Nat) (CN : Nat) (MO : Addr) (MA : Addr) (ML : Addr) (U1 : Addr) (h0 : Heap) (n0 : Nat) (v : Option Value) (h : Heap) (L : List Loc) : Prop := ∃ R0 : Addr, ∃ FG : Nat → Value, (v = some (.ref R0)) ∧ (Fr n0 L) ∧ (Keep h0 h [A0, D0, E0]) ∧ (Exa Z h A0 "com/example/brigid/brigid/core/WaitingLine") ∧ (Fld Z h A0 "com/example/brigid/brigid/core/WaitingLine" "line" "Ljava/util/Deque;" (.ref D0)) ∧ (Fld Z h A0 "com/example/brigid/brigid/core/WaitingLine" "size" "I" (.int (Int32.ofNat 0))) ∧ (Exa Z h D0 "java/util/ArrayDeque") ∧ (Fld Z h D0 "java/util/ArrayDeque" "elements" "[Ljava/lang/Object;" (.ref E0)) ∧ (Fld Z h D0 "java/util/ArrayDeque" "head" "I" (.int (Int32.ofNat 0))) ∧ (Fld Z h D0 "java/util/ArrayDeque" "tail" "I" (.int (Int32.ofNat ((0 + 0) % 17)))) ∧ (own_El Z h E0 FG) ∧ (own_Dq FG 0 0)
set_option maxRecDepth 65536 in
set_option maxHeartbeats 40000000 in
theorem rm16 (l : Launch) (Z : State) (a0 : Array Value) (hw : ∀ d ∈ tables_1, d.before a0 Z = true) (ws : List Jvm.Cond) (A0 : Addr) (D0 : Addr) (E0 : Addr) (FF : Nat → Value) (HD : Nat) (CN : Nat) (MO : Addr) (MA : Addr) (ML : Addr) (U1 : Addr) (h0 : Heap) (n0 : Nat) (Z0 : n0 ≤ h0.size) (pm0 : Exa Z h0 A0 "com/example/brigid/brigid/core/WaitingLine") (pm1 : Fld Z h0 A0 "com/example/brigid/brigid/core/WaitingLine" "line" "Ljava/util/Deque;" (.ref D0)) (pm2 : Fld Z h0 A0 "com/example/brigid/brigid/core/WaitingLine" "size" "I" (.int (Int32.ofNat CN))) (pm3 : Exa Z h0 D0 "java/util/ArrayDeque") (pm4 : Fld Z h0 D0 "java/util/ArrayDeque" "elements" "[Ljava/lang/Object;" (.ref E0)) (pm5 : Fld Z h0 D0 "java/util/ArrayDeque" "head" "I" (.int (Int32.ofNat HD))) (pm6 : Fld Z h0 D0 "java/util/ArrayDeque" "tail" "I" (.int (Int32.ofNat ((HD + CN) % 17)))) (pm7 : own_El Z h0 E0 FF) (hq : own_Dq FF HD CN) (pm9 : Sta Z h0 "java/util/ArrayList" "EMPTY_ELEMENTDATA" "[Ljava/lang/Object;" (.ref U1)) (mO : own_Mi Z "[Ljava/lang/Object;" MO) (mA : own_Mi Z "java/util/ArrayDeque" MA) (mL : own_Mi Z "java/util/ArrayList" ML) (nAD : A0 ≠ D0) (nAE : A0 ≠ E0) (nDE : D0 ≠ E0) (g_A0 : n0 ≤ A0) (g_D0 : n0 ≤ D0) (g_E0 : n0 ≤ E0) :
    MetFree l (⟨"com/example/brigid/brigid/core/WaitingLine", "clear", "()Ljava/util/List;"⟩ : MethodName) (head1 (Jvm.Cond.code (⟨"com/example/brigid/brigid/core/WaitingLine", "clear", "()Ljava/util/List;"⟩ : MethodName) prog_14_method_6_code 2 (some (.object "java/util/List")) :: ws) ({ frames := 5, cells := 3, slots := 11, locals := 80 } : Room)) (fun a U => a = #[(.ref A0)] ∧ Z.Warmed39 U.vm ∧ U.heap = h0) (fun _ _ _ _ _ => True) (fun _ U o U' => ∃ v L, o = .returned v ∧ Q16 Z A0 D0 E0 FF HD CN MO MA ML U1 h0 n0 v U'.heap L ∧ FrameEnd U o U' L ({ frames := 5, cells := 3, slots := 11, locals := 80 } : Room).cells ({ frames := 5, cells := 3, slots := 11, locals := 80 } : Room).slots) := by
  refine MetFree.of_bodySF (plainFor_of_name pn_16) hisR ?_
  intro p e s m args below meth c s₁ Bd hml0 hP hK
  obtain ⟨rfl, hZ, hh⟩ := hP
  have hx := Bd.exec
  have hby := Bd.bytes
  have hml : c.maxLocals = 2 := hml0
  have hown : s.vm.findClass "com/example/brigid/brigid/core/WaitingLine" = some m.cls := findClass_of_methodNamed Bd.named
  have hnm := (name_of_methodNamed Bd.named Bd.method).1
  have X0 : Stand p l e ({ frames := 5, cells := 3, slots := 11, locals := 80 } : Room) s m #[(.ref A0)] below meth c s₁ [] 0 0 := Stand.of_body Bd
  have e0 : s₁.heap = h0 := by rw [← hh, Bd.state]; rfl
  have N0 := Fr.nil n0
  have pre0 : ∀ t, Steps p.tables e below (s₁.setTop (mkF m 0 #[.val (.ref A0), .unset] [])) t → Steps p.tables e below (s₁.setTop (entryFrame m #[(.ref A0)] 2)) t := fun t k => castTop (ef_16 m A0) k
  have K_0 : Keep h0 h0 [A0, D0, E0] := Keep.refl h0 _
  obtain ⟨T101, h101, X101, e101, E101, A101, D101, -, st101⟩ := newO X0 hx hZ hown (hw _ (List.mem_of_getElem? (i := 100) rfl)) (hw _ (List.mem_of_getElem? (i := 101) rfl)) (hw _ (List.mem_of_getElem? (i := 102) rfl)) e0 (g := (mkF m 0 #[.val (.ref A0), .unset] [])) rfl (hb hby d16_0) (by decide) (by decide)
  obtain ⟨b101, q101⟩ : ∃ z, z = h0.size := ⟨_, rfl⟩
  rw [← q101] at A101 D101 st101
  have ne102 : A0 ≠ b101 := Nat.ne_of_lt (Nat.lt_of_lt_of_le pm0.lt (Nat.le_of_eq q101.symm))
  have ne103 : D0 ≠ b101 := Nat.ne_of_lt (Nat.lt_of_lt_of_le pm3.lt (Nat.le_of_eq q101.symm))
  have ne104 : E0 ≠ b101 := Nat.ne_of_lt (Nat.lt_of_lt_of_le pm7.lt (Nat.le_of_eq q101.symm))
  have g_b101 : n0 ≤ b101 := Nat.le_trans Z0 (Nat.le_of_eq q101.symm)
  have sz_b101 : h0.size ≤ b101 := Nat.le_trans K_0.1 (Nat.le_of_eq q101.symm)
  have Z105 : n0 ≤ h101.size := Nat.le_trans Z0 E101.1
  have K_105 : Keep h0 h101 [A0, D0, E0] := K_0.ext E101
  have F101_115 : Fld Z h101 b101 "java/util/AbstractList" "modCount" "I" (.int (0 : Int32)) := D101 (Or.inl (hw _ (List.mem_of_getElem? (i := 115) rfl))) (ty := .int) (by decide)
  have F101_147 : Fld Z h101 b101 "java/util/ArrayList" "size" "I" (.int (0 : Int32)) := D101 (Or.inl (hw _ (List.mem_of_getElem? (i := 147) rfl))) (ty := .int) (by decide)
  have F101_150 : Fld Z h101 b101 "java/util/ArrayList" "elementData" "[Ljava/lang/Object;" .null := D101 (Or.inl (hw _ (List.mem_of_getElem? (i := 150) rfl))) (ty := (.array (.object "java/lang/Object"))) (by decide)
  have c106 : Fld Z h101 A0 "com/example/brigid/brigid/core/WaitingLine" "line" "Ljava/util/Deque;" (.ref D0) := (pm1.ext E101)
  obtain ⟨T107, X107, e107, st107⟩ := getF X101 hx hZ hown (host := "") (Or.inl (hw _ (List.mem_of_getElem? (i := 26) rfl))) Via.refl e101 c106 (g := (mkF m 5 #[.val (.ref A0), .unset] [(.ref A0), (.ref b101), (.ref b101)])) rfl rfl (hb hby d16_5)
  have c108 : Exa Z h101 D0 "java/util/ArrayDeque" := (pm3.ext E101)
  have c109 : Fld Z h101 D0 "java/util/ArrayDeque" "elements" "[Ljava/lang/Object;" (.ref E0) := (pm4.ext E101)
  have c110 : Fld Z h101 D0 "java/util/ArrayDeque" "head" "I" (.int (Int32.ofNat HD)) := (pm5.ext E101)
  have c111 : Fld Z h101 D0 "java/util/ArrayDeque" "tail" "I" (.int (Int32.ofNat ((HD + CN) % 17))) := (pm6.ext E101)
  have c112 : own_El Z h101 E0 FF := (pm7.ext E101)
  have c113 : Sta Z h101 "java/util/ArrayList" "EMPTY_ELEMENTDATA" "[Ljava/lang/Object;" (.ref U1) := (pm9.ext E101)
  obtain ⟨_, _, ⟨T114, L114, k114, n114⟩, -, X114, ⟨Lc114, hQ114, l114, y114, z114⟩, st114⟩ := X107.specialBack hx (y := (⟨"java/util/ArrayList", "<init>", "(Ljava/util/Collection;)V"⟩ : MethodName)) rfl hown (mvT hZ (hw _ (List.mem_of_getElem? (i := 103) rfl))) (mvT hZ (hw _ (List.mem_of_getElem? (i := 104) rfl))) (mvT hZ (hw _ (List.mem_of_getElem? (i := 105) rfl))) (by decide) (backOf (W := 1) (rm17 l Z a0 hw [] b101 D0 E0 FF HD CN MO MA ML U1 h101 n0 Z105 A101 F101_115 F101_147 F101_150 c108 c109 c110 c111 c112 (show own_Dq FF HD CN from hq) c113 (show own_Mi Z "[Ljava/lang/Object;" MO from mO) (show own_Mi Z "java/util/ArrayDeque" MA from mA) (show own_Mi Z "java/util/ArrayList" ML from mL) (show b101 ≠ D0 from (Ne.symm ne103)) (show b101 ≠ E0 from (Ne.symm ne104)) g_b101) hZ (hw _ (List.mem_of_getElem? (i := 105) rfl)) (hw _ (List.mem_of_getElem? (i := 102) rfl)) (by decide) (by decide)) (g := (mkF m 8 #[.val (.ref A0), .unset] [(.ref D0), (.ref b101), (.ref b101)])) rfl (by rw [hml]; rfl) (Steps.refl _) (a := b101) (argsL := [(.ref D0)]) (rest := [(.ref b101)]) (lenOf pd_16_0 rfl) rfl (by show 2 * 0 + _ ≤ _; exact Nat.le_of_eq rfl) (hb hby d16_8) (fun _ _ => ⟨rfl, e107, (by decide : 1 + 2 ≤ _), (by decide : 3 + 8 ≤ _)⟩)
  dsimp only [Pt.U, Pt.locs, Pt.cells, Pt.slots] at X114 l114 y114 z114 st114 hQ114
  subst l114 y114 z114
  obtain ⟨rfl, N114q, K114, p114_0⟩ := hQ114
  have N114 := Fr.app N0 N114q
  have Z115 : n0 ≤ T114.heap.size := Nat.le_trans Z105 K114.1
  have K_115 : Keep h0 T114.heap [A0, D0, E0] := K_105.trans K114 (allS (Or.inr sz_b101) all0)
  have ss114_0 : Sta Z T114.heap "java/util/ArrayList" "EMPTY_ELEMENTDATA" "[Ljava/lang/Object;" (.ref U1) := own_sta_keep c113 K114 (allS (own_ns A101) all0)
  have c116 : Fld Z T114.heap A0 "com/example/brigid/brigid/core/WaitingLine" "line" "Ljava/util/Deque;" (.ref D0) := (c106.keep K114 (ninS ne102 nin0))
  obtain ⟨T117, X117, e117, st117⟩ := getF X114 hx hZ hown (host := "") (Or.inl (hw _ (List.mem_of_getElem? (i := 26) rfl))) Via.refl rfl c116 (g := (mkF m 13 #[.val (.ref A0), .val (.ref b101)] [(.ref A0)])) rfl rfl (hb hby d16_13)
  have c118 : Exa Z T114.heap D0 "java/util/ArrayDeque" := (c108.keep K114)
  have c119 : Fld Z T114.heap D0 "java/util/ArrayDeque" "elements" "[Ljava/lang/Object;" (.ref E0) := (c109.keep K114 (ninS ne103 nin0))
  have c120 : Fld Z T114.heap D0 "java/util/ArrayDeque" "head" "I" (.int (Int32.ofNat HD)) := (c110.keep K114 (ninS ne103 nin0))
  have c121 : Fld Z T114.heap D0 "java/util/ArrayDeque" "tail" "I" (.int (Int32.ofNat ((HD + CN) % 17))) := (c111.keep K114 (ninS ne103 nin0))
  have c122 : own_El Z T114.heap E0 FF := (c112.keep K114 (ninS ne104 nin0))
  obtain ⟨cq123, kq123, q123a, q123b, q123c⟩ := isOf hZ e117 c118
  obtain ⟨_, _, ⟨T123, L123, k123, n123⟩, -, X123, ⟨Lc123, hQ123, l123, y123, z123⟩, st123⟩ := own_face X117 hx (J := "java/util/Collection") (xi := (⟨"java/util/Deque", "clear", "()V"⟩ : MethodName)) (y := (⟨"java/util/ArrayDeque", "clear", "()V"⟩ : MethodName)) hown (mvT hZ (hw _ (List.mem_of_getElem? (i := 151) rfl))) (mvT hZ (hw _ (List.mem_of_getElem? (i := 152) rfl))) (Jvm.Free.ULB.iface_rides hZ.alike (hw _ (List.mem_of_getElem? (i := 153) rfl))) (by decide) (by decide) (mvT hZ (hw _ (List.mem_of_getElem? (i := 154) rfl))) (mvT hZ (hw _ (List.mem_of_getElem? (i := 155) rfl))) (mvT hZ (hw _ (List.mem_of_getElem? (i := 156) rfl))) (mvT hZ (hw _ (List.mem_of_getElem? (i := 157) rfl))) (mvT hZ (hw _ (List.mem_of_getElem? (i := 58) rfl))) (by decide) (backOf (W := 0) (rm23 l Z a0 hw [] D0 E0 FF HD CN T114.heap n0 Z115 c118 c119 c120 c121 c122 (show own_Dq FF HD CN from hq) (show D0 ≠ E0 from nDE) g_D0 g_E0) hZ (hw _ (List.mem_of_getElem? (i := 158) rfl)) (hw _ (List.mem_of_getElem? (i := 11) rfl)) (by decide) (by decide)) q123a q123b q123c (g := (mkF m 16 #[.val (.ref A0), .val (.ref b101)] [(.ref D0)])) rfl (by rw [hml]; rfl) (Steps.refl _) (argsL := []) (rest := []) (lenOf pd_16_1 rfl) rfl (by show 2 * 0 + _ ≤ _; exact Nat.le_of_eq rfl) (hb hby d16_16) (fun _ _ => ⟨rfl, e117, (by decide : 3 + 0 ≤ _), (by decide : 11 + 0 ≤ _)⟩)
  dsimp only [Pt.U, Pt.locs, Pt.cells, Pt.slots] at X123 l123 y123 z123 st123 hQ123
  subst l123 y123 z123
  obtain ⟨x123_FG, rfl, N123q, K123, p123_0, p123_1, p123_2, p123_3, p123_4, p123_5⟩ := hQ123
  have N123 := Fr.app N114 N123q
  have Z124 : n0 ≤ T123.heap.size := Nat.le_trans Z115 K123.1
  have K_124 : Keep h0 T123.heap [A0, D0, E0] := K_115.trans K123 (allS (Or.inl (List.mem_of_getElem? (i := 1) rfl)) (allS (Or.inl (List.mem_of_getElem? (i := 2) rfl)) all0))
  have ss123_0 : Sta Z T123.heap "java/util/ArrayList" "EMPTY_ELEMENTDATA" "[Ljava/lang/Object;" (.ref U1) := own_sta_keep ss114_0 K123 (allS (own_ns c118) (allS (own_nsE c122) all0))
  have c125 : Exa Z T123.heap A0 "com/example/brigid/brigid/core/WaitingLine" := (((pm0.ext E101).keep K114).keep K123)
  have c126 : Fld Z T123.heap A0 "com/example/brigid/brigid/core/WaitingLine" "size" "I" (.int (Int32.ofNat CN)) := (((pm2.ext E101).keep K114 (ninS ne102 nin0)).keep K123 (ninS nAD (ninS nAE nin0)))
  obtain ⟨T127, h127, X127, e127, W127, st127⟩ := putF X123 hx hZ hown (host := "") (Or.inl (hw _ (List.mem_of_getElem? (i := 33) rfl))) Via.refl rfl c126 c125 (Or.inl (hw _ (List.mem_of_getElem? (i := 34) rfl))) (hw _ (List.mem_of_getElem? (i := 1) rfl)) (ty := .int) (by decide) rfl rfl (g := (mkF m 23 #[.val (.ref A0), .val (.ref b101)] [(.int (0 : Int32)), (.ref A0)])) rfl rfl (hb hby d16_23)
  have Z128 : n0 ≤ h127.size := Nat.le_trans Z124 (Nat.le_of_eq W127.size.symm)
  have K_128 : Keep h0 h127 [A0, D0, E0] := K_124.wr W127 (Or.inl (List.mem_of_getElem? (i := 0) rfl))
  have Fw127 : Fld Z h127 A0 "com/example/brigid/brigid/core/WaitingLine" "size" "I" (.int (0 : Int32)) := c126.same W127
  have N127 := Fr.snoc X127 N123 g_A0
  have pre129 : ∀ t, Steps p.tables e below (T127.setTop (mkF m 27 #[.val (.ref A0), .val (.ref b101)] [(.ref b101)])) t → Steps p.tables e below (s₁.setTop (entryFrame m #[(.ref A0)] 2)) t := fun t kt => pre0 t (by
      show Steps p.tables e below (s₁.setTop (mkF m 0 #[.val (.ref A0), .unset] [])) _
      refine st101 _ ?_
      show Steps p.tables e below (T101.setTop (mkF m 3 #[.val (.ref A0), .unset] [(.ref b101)])) _
      refine XS.dup X101.here hx rfl (hb hby d16_3) rfl rfl ?_
      show Steps p.tables e below (T101.setTop (mkF m 4 #[.val (.ref A0), .unset] [(.ref b101), (.ref b101)])) _
      refine XS.aloadN X101.here hx rfl (hb hby d16_4) rfl rfl ?_
      show Steps p.tables e below (T101.setTop (mkF m 5 #[.val (.ref A0), .unset] [(.ref A0), (.ref b101), (.ref b101)])) _
      refine st107 _ ?_
      show Steps p.tables e below (T107.setTop (mkF m 8 #[.val (.ref A0), .unset] [(.ref D0), (.ref b101), (.ref b101)])) _
      refine st114.trans ?_
      show Steps p.tables e below (T114.setTop (mkF m 11 #[.val (.ref A0), .unset] [(.ref b101)])) _
      refine XS.astoreN X114.here hx rfl (hb hby d16_11) rfl rfl (l' := #[.val (.ref A0), .val (.ref b101)]) rfl ?_
      show Steps p.tables e below (T114.setTop (mkF m 12 #[.val (.ref A0), .val (.ref b101)] [])) _
      refine XS.aloadN X114.here hx rfl (hb hby d16_12) rfl rfl ?_
      show Steps p.tables e below (T114.setTop (mkF m 13 #[.val (.ref A0), .val (.ref b101)] [(.ref A0)])) _
      refine st117 _ ?_
      show Steps p.tables e below (T117.setTop (mkF m 16 #[.val (.ref A0), .val (.ref b101)] [(.ref D0)])) _
      refine st123.trans ?_
      show Steps p.tables e below (T123.setTop (mkF m 21 #[.val (.ref A0), .val (.ref b101)] [])) _
      refine XS.aloadN X123.here hx rfl (hb hby d16_21) rfl rfl ?_
      show Steps p.tables e below (T123.setTop (mkF m 22 #[.val (.ref A0), .val (.ref b101)] [(.ref A0)])) _
      refine XS.iconst X123.here hx rfl (hb hby d16_22) ?_
      show Steps p.tables e below (T123.setTop (mkF m 23 #[.val (.ref A0), .val (.ref b101)] [(.int (0 : Int32)), (.ref A0)])) _
      refine st127 _ ?_
      show Steps p.tables e below (T127.setTop (mkF m 26 #[.val (.ref A0), .val (.ref b101)] [])) _
      refine XS.aloadN X127.here hx rfl (hb hby d16_26) rfl rfl ?_
      exact kt)
  have c130 : Exa Z h127 A0 "com/example/brigid/brigid/core/WaitingLine" := (c125.wr W127)
  have c131 : Fld Z h127 A0 "com/example/brigid/brigid/core/WaitingLine" "line" "Ljava/util/Deque;" (.ref D0) := ((c116.keep K123 (ninS nAD (ninS nAE nin0))).other W127 (Or.inr (slot_ne (Or.inr (hw _ (List.mem_of_getElem? (i := 27) rfl))) (Or.inl (hw _ (List.mem_of_getElem? (i := 34) rfl))) (by decide) (t := (.object "java/util/Deque")) (t' := .int) (by decide) (by decide))))
  have c132 : Fld Z h127 D0 "java/util/ArrayDeque" "tail" "I" (.int (Int32.ofNat ((0 + 0) % 17))) := (p123_3.other W127 (Or.inl (Ne.symm nAD)))
  have c133 : Exa Z h127 D0 "java/util/ArrayDeque" := (p123_0.wr W127)
  have c134 : Fld Z h127 D0 "java/util/ArrayDeque" "elements" "[Ljava/lang/Object;" (.ref E0) := (p123_1.other W127 (Or.inl (Ne.symm nAD)))
  have c135 : Fld Z h127 D0 "java/util/ArrayDeque" "head" "I" (.int (Int32.ofNat 0)) := (p123_2.other W127 (Or.inl (Ne.symm nAD)))
  have c136 : own_El Z h127 E0 x123_FG := (p123_4.other W127 (Ne.symm nAE))
  obtain ⟨fs, hr, hrun, hended, hW, hsame⟩ := X127.leave (v := some (.ref b101)) (fun h => by rw [Bd.returns] at h; cases h)
  refine ⟨_, _, pre129 _ ?_, hrun, hended, _, _, rfl, ?_, ⟨_, rfl⟩, hW, hsame.mono (by decide) (by decide)⟩
  · show Steps p.tables e below (T127.setTop (mkF m 27 #[.val (.ref A0), .val (.ref b101)] [(.ref b101)])) _
    exact retOut X127 hx Bd.returns rfl (Or.inr (Or.inr (Or.inr (Or.inr ⟨rfl, rfl, rfl⟩)))) (hb hby d16_27) hr
  · show Q16 Z A0 D0 E0 FF HD CN MO MA ML U1 h0 n0 _ T127.heap _
    rw [e127]
    exact ⟨b101, x123_FG, rfl, N127, K_128, c130, c131, Fw127, c133, c134, c135, c132, c136, p123_5⟩
theorem d26_0 : decode jdk_18_method_1_code 0 = .ok (.aload_n 0, 1) := by decide +kernel
theorem d26_1 : decode jdk_18_method_1_code 1 = .ok (.invokespecial 1, 3) := by decide +kernel
theorem d26_4 : decode jdk_18_method_1_code 4 = .ok (.return_, 1) := by decide +kernel
theorem pn_26 : plainName "java/lang/Number" = true := by first | (simp [plainName, overriddenIn]; done) | decide +kernel
theorem ef_26 (m : MethodId) (A0 : Addr) : entryFrame m #[(.ref A0)] 1 = mkF m 0 #[.val (.ref A0)] [] := by first | (simp [entryFrame, mkF, argsToLocals, Value.category]; done) | rfl
def Q26 (Z : State) (A0 : Addr) (h0 : Heap) (n0 : Nat) (v : Option Value) (h : Heap) (L : List Loc) : Prop := (v = none) ∧ (Fr n0 L) ∧ (h = h0)
set_option maxRecDepth 65536 in
set_option maxHeartbeats 40000000 in
theorem rm26 (l : Launch) (Z : State) (a0 : Array Value) (hw : ∀ d ∈ tables_1, d.before a0 Z = true) (ws : List Jvm.Cond) (A0 : Addr) (h0 : Heap) (n0 : Nat) (Z0 : n0 ≤ h0.size) :
    MetFree l (⟨"java/lang/Number", "<init>", "()V"⟩ : MethodName) (head1 (Jvm.Cond.code (⟨"java/lang/Number", "<init>", "()V"⟩ : MethodName) jdk_18_method_1_code 1 none :: ws) ({ frames := 1, cells := 0, slots := 0, locals := 12 } : Room)) (fun a U => a = #[(.ref A0)] ∧ Z.Warmed39 U.vm ∧ U.heap = h0) (fun _ _ _ _ _ => True) (fun _ U o U' => ∃ v L, o = .returned v ∧ Q26 Z A0 h0 n0 v U'.heap L ∧ FrameEnd U o U' L ({ frames := 1, cells := 0, slots := 0, locals := 12 } : Room).cells ({ frames := 1, cells := 0, slots := 0, locals := 12 } : Room).slots) := by
  refine MetFree.of_bodySF (plainFor_of_name pn_26) hisR ?_
  intro p e s m args below meth c s₁ Bd hml0 hP hK
  obtain ⟨rfl, hZ, hh⟩ := hP
  have hx := Bd.exec
  have hby := Bd.bytes
  have hml : c.maxLocals = 1 := hml0
  have hown : s.vm.findClass "java/lang/Number" = some m.cls := findClass_of_methodNamed Bd.named
  have hnm := (name_of_methodNamed Bd.named Bd.method).1
  have X0 : Stand p l e ({ frames := 1, cells := 0, slots := 0, locals := 12 } : Room) s m #[(.ref A0)] below meth c s₁ [] 0 0 := Stand.of_body Bd
  have e0 : s₁.heap = h0 := by rw [← hh, Bd.state]; rfl
  have N0 := Fr.nil n0
  have pre0 : ∀ t, Steps p.tables e below (s₁.setTop (mkF m 0 #[.val (.ref A0)] [])) t → Steps p.tables e below (s₁.setTop (entryFrame m #[(.ref A0)] 1)) t := fun t k => castTop (ef_26 m A0) k
  obtain ⟨T101, X101, e101, st101⟩ := initO X0 hx hZ hown (hw _ (List.mem_of_getElem? (i := 174) rfl)) (hw _ (List.mem_of_getElem? (i := 7) rfl)) (hw _ (List.mem_of_getElem? (i := 8) rfl)) e0 (g := (mkF m 1 #[.val (.ref A0)] [(.ref A0)])) rfl (by rw [hml]; rfl) rfl (hb hby d26_1) (by decide) (W := 0) (by show 2 * 0 + _ ≤ _; exact Nat.le_of_eq rfl) (by decide)
  have pre102 : ∀ t, Steps p.tables e below (T101.setTop (mkF m 4 #[.val (.ref A0)] [])) t → Steps p.tables e below (s₁.setTop (entryFrame m #[(.ref A0)] 1)) t := fun t kt => pre0 t (by
      show Steps p.tables e below (s₁.setTop (mkF m 0 #[.val (.ref A0)] [])) _
      refine XS.aloadN X0.here hx rfl (hb hby d26_0) rfl rfl ?_
      show Steps p.tables e below (s₁.setTop (mkF m 1 #[.val (.ref A0)] [(.ref A0)])) _
      refine st101 _ ?_
      exact kt)
  obtain ⟨fs, hr, hrun, hended, hW, hsame⟩ := X101.leave (v := none) (fun _ => rfl)
  refine ⟨_, _, pre102 _ ?_, hrun, hended, _, _, rfl, ?_, ⟨_, rfl⟩, hW, hsame.mono (by decide) (by decide)⟩
  · show Steps p.tables e below (T101.setTop (mkF m 4 #[.val (.ref A0)] [])) _
    exact X101.returnOut hx Bd.returns (hb hby d26_4) hr
  · show Q26 Z A0 h0 n0 _ T101.heap _
    rw [e101]
    exact ⟨rfl, N0, rfl⟩
theorem d25_0 : decode jdk_33_method_23_code 0 = .ok (.aload_n 0, 1) := by decide +kernel
theorem d25_1 : decode jdk_33_method_23_code 1 = .ok (.invokespecial 202, 3) := by decide +kernel
theorem d25_4 : decode jdk_33_method_23_code 4 = .ok (.aload_n 0, 1) := by decide +kernel
theorem d25_5 : decode jdk_33_method_23_code 5 = .ok (.iload_n 1, 1) := by decide +kernel
theorem d25_6 : decode jdk_33_method_23_code 6 = .ok (.putfield 205, 3) := by decide +kernel
theorem d25_9 : decode jdk_33_method_23_code 9 = .ok (.return_, 1) := by decide +kernel
theorem pn_25 : plainName "java/lang/Integer" = true := by first | (simp [plainName, overriddenIn]; done) | decide +kernel
theorem pd_25_0 : parseMethodDescriptor "()V" = some ⟨[], none⟩ := by decide +kernel
theorem ef_25 (m : MethodId) (A0 : Addr) (P1 : Int32) : entryFrame m #[(.ref A0), (.int P1)] 2 = mkF m 0 #[.val (.ref A0), .val (.int P1)] [] := by first | (simp [entryFrame, mkF, argsToLocals, Value.category]; done) | rfl
def Q25 (Z : State) (A0 : Addr) (P1 : Int32) (W0 : Int32) (h0 : Heap) (n0 : Nat) (v : Option Value) (h : Heap) (L : List Loc) : Prop := (v = none) ∧ (Fr n0 L) ∧ (Keep h0 h [A0]) ∧ (Exa Z h A0 "java/lang/Integer") ∧ (Fld Z h A0 "java/lang/Integer" "value" "I" (.int P1))
set_option maxRecDepth 65536 in
set_option maxHeartbeats 40000000 in
theorem rm25 (l : Launch) (Z : State) (a0 : Array Value) (hw : ∀ d ∈ tables_1, d.before a0 Z = true) (ws : List Jvm.Cond) (A0 : Addr) (P1 : Int32) (W0 : Int32) (h0 : Heap) (n0 : Nat) (Z0 : n0 ≤ h0.size) (pm0 : Fld Z h0 A0 "java/lang/Integer" "value" "I" (.int W0)) (pm1 : Exa Z h0 A0 "java/lang/Integer") (g_A0 : n0 ≤ A0) :
    MetFree l (⟨"java/lang/Integer", "<init>", "(I)V"⟩ : MethodName) (head1 (Jvm.Cond.code (⟨"java/lang/Integer", "<init>", "(I)V"⟩ : MethodName) jdk_33_method_23_code 2 none :: ws) ({ frames := 2, cells := 0, slots := 0, locals := 24 } : Room)) (fun a U => a = #[(.ref A0), (.int P1)] ∧ Z.Warmed39 U.vm ∧ U.heap = h0) (fun _ _ _ _ _ => True) (fun _ U o U' => ∃ v L, o = .returned v ∧ Q25 Z A0 P1 W0 h0 n0 v U'.heap L ∧ FrameEnd U o U' L ({ frames := 2, cells := 0, slots := 0, locals := 24 } : Room).cells ({ frames := 2, cells := 0, slots := 0, locals := 24 } : Room).slots) := by
  refine MetFree.of_bodySF (plainFor_of_name pn_25) hisR ?_
  intro p e s m args below meth c s₁ Bd hml0 hP hK
  obtain ⟨rfl, hZ, hh⟩ := hP
  have hx := Bd.exec
  have hby := Bd.bytes
  have hml : c.maxLocals = 2 := hml0
  have hown : s.vm.findClass "java/lang/Integer" = some m.cls := findClass_of_methodNamed Bd.named
  have hnm := (name_of_methodNamed Bd.named Bd.method).1
  have X0 : Stand p l e ({ frames := 2, cells := 0, slots := 0, locals := 24 } : Room) s m #[(.ref A0), (.int P1)] below meth c s₁ [] 0 0 := Stand.of_body Bd
  have e0 : s₁.heap = h0 := by rw [← hh, Bd.state]; rfl
  have N0 := Fr.nil n0
  have pre0 : ∀ t, Steps p.tables e below (s₁.setTop (mkF m 0 #[.val (.ref A0), .val (.int P1)] [])) t → Steps p.tables e below (s₁.setTop (entryFrame m #[(.ref A0), (.int P1)] 2)) t := fun t k => castTop (ef_25 m A0 P1) k
  have K_0 : Keep h0 h0 [A0] := Keep.refl h0 _
  obtain ⟨_, _, ⟨T101, L101, k101, n101⟩, -, X101, ⟨Lc101, hQ101, l101, y101, z101⟩, st101⟩ := X0.specialBack hx (y := (⟨"java/lang/Number", "<init>", "()V"⟩ : MethodName)) rfl hown (mvT hZ (hw _ (List.mem_of_getElem? (i := 168) rfl))) (mvT hZ (hw _ (List.mem_of_getElem? (i := 169) rfl))) (mvT hZ (hw _ (List.mem_of_getElem? (i := 173) rfl))) (by decide) (backOf (W := 0) (rm26 l Z a0 hw [] A0 h0 n0 Z0 ) hZ (hw _ (List.mem_of_getElem? (i := 173) rfl)) (hw _ (List.mem_of_getElem? (i := 172) rfl)) (by decide) (by decide)) (g := (mkF m 1 #[.val (.ref A0), .val (.int P1)] [(.ref A0)])) rfl (by rw [hml]; rfl) (Steps.refl _) (a := A0) (argsL := []) (rest := []) (lenOf pd_25_0 rfl) rfl (by show 2 * 0 + _ ≤ _; exact Nat.le_of_eq rfl) (hb hby d25_1) (fun _ _ => ⟨rfl, e0, (by decide : 0 + 0 ≤ _), (by decide : 0 + 0 ≤ _)⟩)
  dsimp only [Pt.U, Pt.locs, Pt.cells, Pt.slots] at X101 l101 y101 z101 st101 hQ101
  subst l101 y101 z101
  obtain ⟨rfl, N101q, K101⟩ := hQ101
  have N101 := Fr.app N0 N101q
  obtain ⟨T102, h102, X102, e102, W102, st102⟩ := putF X101 hx hZ hown (host := "") (Or.inl (hw _ (List.mem_of_getElem? (i := 175) rfl))) Via.refl K101 pm0 pm1 (Or.inr ⟨(hw _ (List.mem_of_getElem? (i := 176) rfl)), rfl, hnm⟩) (hw _ (List.mem_of_getElem? (i := 163) rfl)) (ty := .int) (by decide) rfl rfl (g := (mkF m 6 #[.val (.ref A0), .val (.int P1)] [(.int P1), (.ref A0)])) rfl rfl (hb hby d25_6)
  have Z103 : n0 ≤ h102.size := Nat.le_trans Z0 (Nat.le_of_eq W102.size.symm)
  have K_103 : Keep h0 h102 [A0] := K_0.wr W102 (Or.inl (List.mem_of_getElem? (i := 0) rfl))
  have Fw102 : Fld Z h102 A0 "java/lang/Integer" "value" "I" (.int P1) := pm0.same W102
  have N102 := Fr.snoc X102 N101 g_A0
  have pre104 : ∀ t, Steps p.tables e below (T102.setTop (mkF m 9 #[.val (.ref A0), .val (.int P1)] [])) t → Steps p.tables e below (s₁.setTop (entryFrame m #[(.ref A0), (.int P1)] 2)) t := fun t kt => pre0 t (by
      show Steps p.tables e below (s₁.setTop (mkF m 0 #[.val (.ref A0), .val (.int P1)] [])) _
      refine XS.aloadN X0.here hx rfl (hb hby d25_0) rfl rfl ?_
      show Steps p.tables e below (s₁.setTop (mkF m 1 #[.val (.ref A0), .val (.int P1)] [(.ref A0)])) _
      refine st101.trans ?_
      show Steps p.tables e below (T101.setTop (mkF m 4 #[.val (.ref A0), .val (.int P1)] [])) _
      refine XS.aloadN X101.here hx rfl (hb hby d25_4) rfl rfl ?_
      show Steps p.tables e below (T101.setTop (mkF m 5 #[.val (.ref A0), .val (.int P1)] [(.ref A0)])) _
      refine XS.iloadN X101.here hx rfl (hb hby d25_5) rfl ?_
      show Steps p.tables e below (T101.setTop (mkF m 6 #[.val (.ref A0), .val (.int P1)] [(.int P1), (.ref A0)])) _
      refine st102 _ ?_
      exact kt)
  have c105 : Exa Z h102 A0 "java/lang/Integer" := (pm1.wr W102)
  obtain ⟨fs, hr, hrun, hended, hW, hsame⟩ := X102.leave (v := none) (fun _ => rfl)
  refine ⟨_, _, pre104 _ ?_, hrun, hended, _, _, rfl, ?_, ⟨_, rfl⟩, hW, hsame.mono (by decide) (by decide)⟩
  · show Steps p.tables e below (T102.setTop (mkF m 9 #[.val (.ref A0), .val (.int P1)] [])) _
    exact X102.returnOut hx Bd.returns (hb hby d25_9) hr
  · show Q25 Z A0 P1 W0 h0 n0 _ T102.heap _
    rw [e102]
    exact ⟨rfl, N102, K_103, c105, Fw102⟩
theorem d7_0 : decode jdk_33_method_22_code 0 = .ok (.iload_n 0, 1) := by decide +kernel
theorem d7_1 : decode jdk_33_method_22_code 1 = .ok (.bipush (-128), 2) := by decide +kernel
theorem d7_3 : decode jdk_33_method_22_code 3 = .ok (.if_icmp .lt 20, 3) := by decide +kernel
theorem d7_6 : decode jdk_33_method_22_code 6 = .ok (.iload_n 0, 1) := by decide +kernel
theorem d7_7 : decode jdk_33_method_22_code 7 = .ok (.getstatic 191, 3) := by decide +kernel
theorem d7_10 : decode jdk_33_method_22_code 10 = .ok (.if_icmp .gt 13, 3) := by decide +kernel
theorem d7_13 : decode jdk_33_method_22_code 13 = .ok (.getstatic 195, 3) := by decide +kernel
theorem d7_16 : decode jdk_33_method_22_code 16 = .ok (.iload_n 0, 1) := by decide +kernel
theorem d7_17 : decode jdk_33_method_22_code 17 = .ok (.sipush 128, 3) := by decide +kernel
theorem d7_20 : decode jdk_33_method_22_code 20 = .ok (.iadd, 1) := by decide +kernel
theorem d7_21 : decode jdk_33_method_22_code 21 = .ok (.aaload, 1) := by decide +kernel
theorem d7_22 : decode jdk_33_method_22_code 22 = .ok (.areturn, 1) := by decide +kernel
theorem d7_23 : decode jdk_33_method_22_code 23 = .ok (.new 1, 3) := by decide +kernel
theorem d7_26 : decode jdk_33_method_22_code 26 = .ok (.dup, 1) := by decide +kernel
theorem d7_27 : decode jdk_33_method_22_code 27 = .ok (.iload_n 0, 1) := by decide +kernel
theorem d7_28 : decode jdk_33_method_22_code 28 = .ok (.invokespecial 199, 3) := by decide +kernel
theorem d7_31 : decode jdk_33_method_22_code 31 = .ok (.areturn, 1) := by decide +kernel
theorem pn_7 : plainName "java/lang/Integer" = true := by first | (simp [plainName, overriddenIn]; done) | decide +kernel
theorem pd_7_0 : parseMethodDescriptor "(I)V" = some ⟨[.int], none⟩ := by decide +kernel
theorem ef_7 (m : MethodId) (P0 : Int32) : entryFrame m #[(.int P0)] 1 = mkF m 0 #[.val (.int P0)] [] := by first | (simp [entryFrame, mkF, argsToLocals, Value.category]; done) | rfl
def Q7 (Z : State) (P0 : Int32) (U0 : Addr) (h0 : Heap) (n0 : Nat) (v : Option Value) (h : Heap) (L : List Loc) : Prop := ∃ R0 : Addr, (v = some (.ref R0)) ∧ (Fr n0 L) ∧ (Keep h0 h []) ∧ (Exa Z h R0 "java/lang/Integer")
set_option maxRecDepth 65536 in
set_option maxHeartbeats 40000000 in
theorem rm7 (l : Launch) (Z : State) (a0 : Array Value) (hw : ∀ d ∈ tables_1, d.before a0 Z = true) (ws : List Jvm.Cond) (P0 : Int32) (U0 : Addr) (h0 : Heap) (n0 : Nat) (Z0 : n0 ≤ h0.size) (pm0 : Sta Z h0 "java/lang/Integer$IntegerCache" "cache" "[Ljava/lang/Integer;" (.ref U0)) (pm1 : Sta Z h0 "java/lang/Integer$IntegerCache" "high" "I" (.int (127 : Int32))) (pm2 : own_Cac Z h0 "java/lang/Integer" U0) :
    MetFree l (⟨"java/lang/Integer", "valueOf", "(I)Ljava/lang/Integer;"⟩ : MethodName) (head1 (Jvm.Cond.code (⟨"java/lang/Integer", "valueOf", "(I)Ljava/lang/Integer;"⟩ : MethodName) jdk_33_method_22_code 1 (some (.object "java/lang/Integer")) :: ws) ({ frames := 3, cells := 1, slots := 1, locals := 38 } : Room)) (fun a U => a = #[(.int P0)] ∧ Z.Warmed39 U.vm ∧ U.heap = h0) (fun _ _ _ _ _ => True) (fun _ U o U' => ∃ v L, o = .returned v ∧ Q7 Z P0 U0 h0 n0 v U'.heap L ∧ FrameEnd U o U' L ({ frames := 3, cells := 1, slots := 1, locals := 38 } : Room).cells ({ frames := 3, cells := 1, slots := 1, locals := 38 } : Room).slots) := by
  refine MetFree.of_bodySF (plainFor_of_name pn_7) hisR ?_
  intro p e s m args below meth c s₁ Bd hml0 hP hK
  obtain ⟨rfl, hZ, hh⟩ := hP
  have hx := Bd.exec
  have hby := Bd.bytes
  have hml : c.maxLocals = 1 := hml0
  have hown : s.vm.findClass "java/lang/Integer" = some m.cls := findClass_of_methodNamed Bd.named
  have hnm := (name_of_methodNamed Bd.named Bd.method).1
  have X0 : Stand p l e ({ frames := 3, cells := 1, slots := 1, locals := 38 } : Room) s m #[(.int P0)] below meth c s₁ [] 0 0 := Stand.of_body Bd
  have e0 : s₁.heap = h0 := by rw [← hh, Bd.state]; rfl
  have N0 := Fr.nil n0
  have pre0 : ∀ t, Steps p.tables e below (s₁.setTop (mkF m 0 #[.val (.int P0)] [])) t → Steps p.tables e below (s₁.setTop (entryFrame m #[(.int P0)] 1)) t := fun t k => castTop (ef_7 m P0) k
  have K_0 : Keep h0 h0 [] := Keep.refl h0 _
  have pre101 : ∀ t, Steps p.tables e below (s₁.setTop (mkF m 3 #[.val (.int P0)] [(.int (-128 : Int32)), (.int P0)])) t → Steps p.tables e below (s₁.setTop (entryFrame m #[(.int P0)] 1)) t := fun t kt => pre0 t (by
      show Steps p.tables e below (s₁.setTop (mkF m 0 #[.val (.int P0)] [])) _
      refine XS.iloadN X0.here hx rfl (hb hby d7_0) rfl ?_
      show Steps p.tables e below (s₁.setTop (mkF m 1 #[.val (.int P0)] [(.int P0)])) _
      refine XS.bipush X0.here hx rfl (hb hby d7_1) ?_
      exact kt)
  by_cases hc3 : P0 < (-128 : Int32)
  · obtain ⟨T102, h102, X102, e102, E102, A102, D102, -, st102⟩ := newO X0 hx hZ hown (hw _ (List.mem_of_getElem? (i := 162) rfl)) (hw _ (List.mem_of_getElem? (i := 163) rfl)) (hw _ (List.mem_of_getElem? (i := 41) rfl)) e0 (g := (mkF m 23 #[.val (.int P0)] [])) rfl (hb hby d7_23) (by decide) (by decide)
    obtain ⟨b102, q102⟩ : ∃ z, z = h0.size := ⟨_, rfl⟩
    rw [← q102] at A102 D102 st102
    have ne103 : U0 ≠ b102 := Nat.ne_of_lt (Nat.lt_of_lt_of_le pm2.lt (Nat.le_of_eq q102.symm))
    have g_b102 : n0 ≤ b102 := Nat.le_trans Z0 (Nat.le_of_eq q102.symm)
    have sz_b102 : h0.size ≤ b102 := Nat.le_trans K_0.1 (Nat.le_of_eq q102.symm)
    have Z104 : n0 ≤ h102.size := Nat.le_trans Z0 E102.1
    have K_104 : Keep h0 h102 [] := K_0.ext E102
    have F102_176 : Fld Z h102 b102 "java/lang/Integer" "value" "I" (.int (0 : Int32)) := D102 (Or.inr (hw _ (List.mem_of_getElem? (i := 176) rfl))) (ty := .int) (by decide)
    have c105 : Sta Z h102 "java/lang/Integer$IntegerCache" "cache" "[Ljava/lang/Integer;" (.ref U0) := (pm0.ext E102)
    have c106 : Sta Z h102 "java/lang/Integer$IntegerCache" "high" "I" (.int (127 : Int32)) := (pm1.ext E102)
    obtain ⟨_, _, ⟨T107, L107, k107, n107⟩, -, X107, ⟨Lc107, hQ107, l107, y107, z107⟩, st107⟩ := X102.specialBack hx (y := (⟨"java/lang/Integer", "<init>", "(I)V"⟩ : MethodName)) rfl hown (mvT hZ (hw _ (List.mem_of_getElem? (i := 164) rfl))) (mvT hZ (hw _ (List.mem_of_getElem? (i := 165) rfl))) (mvT hZ (hw _ (List.mem_of_getElem? (i := 167) rfl))) (by decide) (backOf (W := 1) (rm25 l Z a0 hw [] b102 P0 (0 : Int32) h102 n0 Z104 F102_176 A102 g_b102) hZ (hw _ (List.mem_of_getElem? (i := 167) rfl)) (hw _ (List.mem_of_getElem? (i := 41) rfl)) (by decide) (by decide)) (g := (mkF m 28 #[.val (.int P0)] [(.int P0), (.ref b102), (.ref b102)])) rfl (by rw [hml]; rfl) (Steps.refl _) (a := b102) (argsL := [(.int P0)]) (rest := [(.ref b102)]) (lenOf pd_7_0 rfl) rfl (by show 2 * 0 + _ ≤ _; exact Nat.le_of_eq rfl) (hb hby d7_28) (fun _ _ => ⟨rfl, e102, (by decide : 1 + 0 ≤ _), (by decide : 1 + 0 ≤ _)⟩)
    dsimp only [Pt.U, Pt.locs, Pt.cells, Pt.slots] at X107 l107 y107 z107 st107 hQ107
    subst l107 y107 z107
    obtain ⟨rfl, N107q, K107, p107_0, p107_1⟩ := hQ107
    have N107 := Fr.app N0 N107q
    have Z108 : n0 ≤ T107.heap.size := Nat.le_trans Z104 K107.1
    have K_108 : Keep h0 T107.heap [] := K_104.trans K107 (allS (Or.inr sz_b102) all0)
    have ss107_0 : Sta Z T107.heap "java/lang/Integer$IntegerCache" "cache" "[Ljava/lang/Integer;" (.ref U0) := own_sta_keep c105 K107 (allS (own_ns A102) all0)
    have ss107_1 : Sta Z T107.heap "java/lang/Integer$IntegerCache" "high" "I" (.int (127 : Int32)) := own_sta_keep c106 K107 (allS (own_ns A102) all0)
    have pre109 : ∀ t, Steps p.tables e below (T107.setTop (mkF m 31 #[.val (.int P0)] [(.ref b102)])) t → Steps p.tables e below (s₁.setTop (entryFrame m #[(.int P0)] 1)) t := fun t kt => pre101 t (by
        show Steps p.tables e below (s₁.setTop (mkF m 3 #[.val (.int P0)] [(.int (-128 : Int32)), (.int P0)])) _
        refine XS.icmpYes X0.here hx rfl (pc0 := 3) (pc' := 23) rfl (hb hby d7_3) rfl (tlt hc3).1 (by decide) (by decide) ?_
        show Steps p.tables e below (s₁.setTop (mkF m 23 #[.val (.int P0)] [])) _
        refine st102 _ ?_
        show Steps p.tables e below (T102.setTop (mkF m 26 #[.val (.int P0)] [(.ref b102)])) _
        refine XS.dup X102.here hx rfl (hb hby d7_26) rfl rfl ?_
        show Steps p.tables e below (T102.setTop (mkF m 27 #[.val (.int P0)] [(.ref b102), (.ref b102)])) _
        refine XS.iloadN X102.here hx rfl (hb hby d7_27) rfl ?_
        show Steps p.tables e below (T102.setTop (mkF m 28 #[.val (.int P0)] [(.int P0), (.ref b102), (.ref b102)])) _
        refine st107.trans ?_
        exact kt)
    obtain ⟨fs, hr, hrun, hended, hW, hsame⟩ := X107.leave (v := some (.ref b102)) (fun h => by rw [Bd.returns] at h; cases h)
    refine ⟨_, _, pre109 _ ?_, hrun, hended, _, _, rfl, ?_, ⟨_, rfl⟩, hW, hsame.mono (by decide) (by decide)⟩
    · show Steps p.tables e below (T107.setTop (mkF m 31 #[.val (.int P0)] [(.ref b102)])) _
      exact retOut X107 hx Bd.returns rfl (Or.inr (Or.inr (Or.inr (Or.inr ⟨rfl, rfl, rfl⟩)))) (hb hby d7_31) hr
    · show Q7 Z P0 U0 h0 n0 _ T107.heap _
      exact ⟨b102, rfl, N107, K_108, p107_0⟩
  · obtain ⟨T110, X110, e110, st110⟩ := getS2 X0 hx hZ hown (host := "") (Or.inl (hw _ (List.mem_of_getElem? (i := 43) rfl))) Via.refl e0 pm1 (g := (mkF m 7 #[.val (.int P0)] [(.int P0)])) rfl (hb hby d7_7)
    have pre111 : ∀ t, Steps p.tables e below (T110.setTop (mkF m 10 #[.val (.int P0)] [(.int (127 : Int32)), (.int P0)])) t → Steps p.tables e below (s₁.setTop (entryFrame m #[(.int P0)] 1)) t := fun t kt => pre101 t (by
        show Steps p.tables e below (s₁.setTop (mkF m 3 #[.val (.int P0)] [(.int (-128 : Int32)), (.int P0)])) _
        refine XS.icmpNo X0.here hx rfl (hb hby d7_3) rfl (flt hc3).1 ?_
        show Steps p.tables e below (s₁.setTop (mkF m 6 #[.val (.int P0)] [])) _
        refine XS.iloadN X0.here hx rfl (hb hby d7_6) rfl ?_
        show Steps p.tables e below (s₁.setTop (mkF m 7 #[.val (.int P0)] [(.int P0)])) _
        refine st110 _ ?_
        exact kt)
    by_cases hc10 : (127 : Int32) < P0
    · obtain ⟨T112, h112, X112, e112, E112, A112, D112, -, st112⟩ := newO X110 hx hZ hown (hw _ (List.mem_of_getElem? (i := 162) rfl)) (hw _ (List.mem_of_getElem? (i := 163) rfl)) (hw _ (List.mem_of_getElem? (i := 41) rfl)) e110 (g := (mkF m 23 #[.val (.int P0)] [])) rfl (hb hby d7_23) (by decide) (by decide)
      obtain ⟨b112, q112⟩ : ∃ z, z = h0.size := ⟨_, rfl⟩
      rw [← q112] at A112 D112 st112
      have ne113 : U0 ≠ b112 := Nat.ne_of_lt (Nat.lt_of_lt_of_le pm2.lt (Nat.le_of_eq q112.symm))
      have g_b112 : n0 ≤ b112 := Nat.le_trans Z0 (Nat.le_of_eq q112.symm)
      have sz_b112 : h0.size ≤ b112 := Nat.le_trans K_0.1 (Nat.le_of_eq q112.symm)
      have Z114 : n0 ≤ h112.size := Nat.le_trans Z0 E112.1
      have K_114 : Keep h0 h112 [] := K_0.ext E112
      have F112_176 : Fld Z h112 b112 "java/lang/Integer" "value" "I" (.int (0 : Int32)) := D112 (Or.inr (hw _ (List.mem_of_getElem? (i := 176) rfl))) (ty := .int) (by decide)
      have c115 : Sta Z h112 "java/lang/Integer$IntegerCache" "cache" "[Ljava/lang/Integer;" (.ref U0) := (pm0.ext E112)
      have c116 : Sta Z h112 "java/lang/Integer$IntegerCache" "high" "I" (.int (127 : Int32)) := (pm1.ext E112)
      obtain ⟨_, _, ⟨T117, L117, k117, n117⟩, -, X117, ⟨Lc117, hQ117, l117, y117, z117⟩, st117⟩ := X112.specialBack hx (y := (⟨"java/lang/Integer", "<init>", "(I)V"⟩ : MethodName)) rfl hown (mvT hZ (hw _ (List.mem_of_getElem? (i := 164) rfl))) (mvT hZ (hw _ (List.mem_of_getElem? (i := 165) rfl))) (mvT hZ (hw _ (List.mem_of_getElem? (i := 167) rfl))) (by decide) (backOf (W := 1) (rm25 l Z a0 hw [] b112 P0 (0 : Int32) h112 n0 Z114 F112_176 A112 g_b112) hZ (hw _ (List.mem_of_getElem? (i := 167) rfl)) (hw _ (List.mem_of_getElem? (i := 41) rfl)) (by decide) (by decide)) (g := (mkF m 28 #[.val (.int P0)] [(.int P0), (.ref b112), (.ref b112)])) rfl (by rw [hml]; rfl) (Steps.refl _) (a := b112) (argsL := [(.int P0)]) (rest := [(.ref b112)]) (lenOf pd_7_0 rfl) rfl (by show 2 * 0 + _ ≤ _; exact Nat.le_of_eq rfl) (hb hby d7_28) (fun _ _ => ⟨rfl, e112, (by decide : 1 + 0 ≤ _), (by decide : 1 + 0 ≤ _)⟩)
      dsimp only [Pt.U, Pt.locs, Pt.cells, Pt.slots] at X117 l117 y117 z117 st117 hQ117
      subst l117 y117 z117
      obtain ⟨rfl, N117q, K117, p117_0, p117_1⟩ := hQ117
      have N117 := Fr.app N0 N117q
      have Z118 : n0 ≤ T117.heap.size := Nat.le_trans Z114 K117.1
      have K_118 : Keep h0 T117.heap [] := K_114.trans K117 (allS (Or.inr sz_b112) all0)
      have ss117_0 : Sta Z T117.heap "java/lang/Integer$IntegerCache" "cache" "[Ljava/lang/Integer;" (.ref U0) := own_sta_keep c115 K117 (allS (own_ns A112) all0)
      have ss117_1 : Sta Z T117.heap "java/lang/Integer$IntegerCache" "high" "I" (.int (127 : Int32)) := own_sta_keep c116 K117 (allS (own_ns A112) all0)
      have pre119 : ∀ t, Steps p.tables e below (T117.setTop (mkF m 31 #[.val (.int P0)] [(.ref b112)])) t → Steps p.tables e below (s₁.setTop (entryFrame m #[(.int P0)] 1)) t := fun t kt => pre111 t (by
          show Steps p.tables e below (T110.setTop (mkF m 10 #[.val (.int P0)] [(.int (127 : Int32)), (.int P0)])) _
          refine XS.icmpYes X110.here hx rfl (pc0 := 10) (pc' := 23) rfl (hb hby d7_10) rfl (tlt hc10).2.2.1 (by decide) (by decide) ?_
          show Steps p.tables e below (T110.setTop (mkF m 23 #[.val (.int P0)] [])) _
          refine st112 _ ?_
          show Steps p.tables e below (T112.setTop (mkF m 26 #[.val (.int P0)] [(.ref b112)])) _
          refine XS.dup X112.here hx rfl (hb hby d7_26) rfl rfl ?_
          show Steps p.tables e below (T112.setTop (mkF m 27 #[.val (.int P0)] [(.ref b112), (.ref b112)])) _
          refine XS.iloadN X112.here hx rfl (hb hby d7_27) rfl ?_
          show Steps p.tables e below (T112.setTop (mkF m 28 #[.val (.int P0)] [(.int P0), (.ref b112), (.ref b112)])) _
          refine st117.trans ?_
          exact kt)
      obtain ⟨fs, hr, hrun, hended, hW, hsame⟩ := X117.leave (v := some (.ref b112)) (fun h => by rw [Bd.returns] at h; cases h)
      refine ⟨_, _, pre119 _ ?_, hrun, hended, _, _, rfl, ?_, ⟨_, rfl⟩, hW, hsame.mono (by decide) (by decide)⟩
      · show Steps p.tables e below (T117.setTop (mkF m 31 #[.val (.int P0)] [(.ref b112)])) _
        exact retOut X117 hx Bd.returns rfl (Or.inr (Or.inr (Or.inr (Or.inr ⟨rfl, rfl, rfl⟩)))) (hb hby d7_31) hr
      · show Q7 Z P0 U0 h0 n0 _ T117.heap _
        exact ⟨b112, rfl, N117, K_118, p117_0⟩
    · obtain ⟨T120, X120, e120, st120⟩ := getS2 X110 hx hZ hown (host := "") (Or.inl (hw _ (List.mem_of_getElem? (i := 45) rfl))) Via.refl e110 pm0 (g := (mkF m 13 #[.val (.int P0)] [])) rfl (hb hby d7_13)
      obtain ⟨cl121, Ar121, sz121, al121⟩ := id pm2
      obtain ⟨ok121, lt121⟩ := IntBox.place_ok P0 hc3 hc10
      have hin121 : ¬ ((P0 + (128 : Int32)) < 0 ∨ cl121.slots.size ≤ ((P0 + (128 : Int32))).toNatClampNeg) := by rw [sz121]; exact ok121
      obtain ⟨bx121, hat121, hex121⟩ := al121 _ lt121
      have pre122 : ∀ t, Steps p.tables e below (T120.setTop (mkF m 22 #[.val (.int P0)] [(.ref bx121)])) t → Steps p.tables e below (s₁.setTop (entryFrame m #[(.int P0)] 1)) t := fun t kt => pre111 t (by
          show Steps p.tables e below (T110.setTop (mkF m 10 #[.val (.int P0)] [(.int (127 : Int32)), (.int P0)])) _
          refine XS.icmpNo X110.here hx rfl (hb hby d7_10) rfl (flt hc10).2.2.1 ?_
          show Steps p.tables e below (T110.setTop (mkF m 13 #[.val (.int P0)] [])) _
          refine st120 _ ?_
          show Steps p.tables e below (T120.setTop (mkF m 16 #[.val (.int P0)] [(.ref U0)])) _
          refine XS.iloadN X120.here hx rfl (hb hby d7_16) rfl ?_
          show Steps p.tables e below (T120.setTop (mkF m 17 #[.val (.int P0)] [(.int P0), (.ref U0)])) _
          refine XS.sipush X120.here hx rfl (hb hby d7_17) ?_
          show Steps p.tables e below (T120.setTop (mkF m 20 #[.val (.int P0)] [(.int (128 : Int32)), (.int P0), (.ref U0)])) _
          refine XS.iadd X120.here hx rfl (hb hby d7_20) rfl ?_
          show Steps p.tables e below (T120.setTop (mkF m 21 #[.val (.int P0)] [(.int (P0 + (128 : Int32))), (.ref U0)])) _
          refine X120.aaload hx (j := (P0 + (128 : Int32))) (v := (.ref bx121)) (by rw [e120]; exact Ar121.1) (State.isArrayOf_alike hZ.alike Ar121.2.1) rfl Ar121.2.2 hin121 hat121 (g := (mkF m 21 #[.val (.int P0)] [(.int (P0 + (128 : Int32))), (.ref U0)])) rfl rfl (hb hby d7_21) _ ?_
          exact kt)
      obtain ⟨fs, hr, hrun, hended, hW, hsame⟩ := X120.leave (v := some (.ref bx121)) (fun h => by rw [Bd.returns] at h; cases h)
      refine ⟨_, _, pre122 _ ?_, hrun, hended, _, _, rfl, ?_, ⟨_, rfl⟩, hW, hsame.mono (by decide) (by decide)⟩
      · show Steps p.tables e below (T120.setTop (mkF m 22 #[.val (.int P0)] [(.ref bx121)])) _
        exact retOut X120 hx Bd.returns rfl (Or.inr (Or.inr (Or.inr (Or.inr ⟨rfl, rfl, rfl⟩)))) (hb hby d7_22) hr
      · show Q7 Z P0 U0 h0 n0 _ T120.heap _
        rw [e120]
        exact ⟨bx121, rfl, N0, K_0, hex121⟩
theorem d6_0 : decode method_3_code 0 = .ok (.iload_n 1, 1) := by decide +kernel
theorem d6_1 : decode method_3_code 1 = .ok (.ifCond .ne 15, 3) := by decide +kernel
theorem d6_4 : decode method_3_code 4 = .ok (.aload_n 0, 1) := by decide +kernel
theorem d6_5 : decode method_3_code 5 = .ok (.iload_n 3, 1) := by decide +kernel
theorem d6_6 : decode method_3_code 6 = .ok (.invokestatic 20, 3) := by decide +kernel
theorem d6_9 : decode method_3_code 9 = .ok (.invokevirtual 26, 3) := by decide +kernel
theorem d6_12 : decode method_3_code 12 = .ok (.iload_n 2, 1) := by decide +kernel
theorem d6_13 : decode method_3_code 13 = .ok (.iconst 1, 1) := by decide +kernel
theorem d6_14 : decode method_3_code 14 = .ok (.iadd, 1) := by decide +kernel
theorem d6_15 : decode method_3_code 15 = .ok (.ireturn, 1) := by decide +kernel
theorem d6_16 : decode method_3_code 16 = .ok (.iload_n 1, 1) := by decide +kernel
theorem d6_17 : decode method_3_code 17 = .ok (.iconst 1, 1) := by decide +kernel
theorem d6_18 : decode method_3_code 18 = .ok (.if_icmp .ne 15, 3) := by decide +kernel
theorem d6_21 : decode method_3_code 21 = .ok (.aload_n 0, 1) := by decide +kernel
theorem d6_22 : decode method_3_code 22 = .ok (.iload_n 3, 1) := by decide +kernel
theorem d6_23 : decode method_3_code 23 = .ok (.invokestatic 20, 3) := by decide +kernel
theorem d6_26 : decode method_3_code 26 = .ok (.invokevirtual 30, 3) := by decide +kernel
theorem d6_29 : decode method_3_code 29 = .ok (.iload_n 2, 1) := by decide +kernel
theorem d6_30 : decode method_3_code 30 = .ok (.iconst 1, 1) := by decide +kernel
theorem d6_31 : decode method_3_code 31 = .ok (.iadd, 1) := by decide +kernel
theorem d6_32 : decode method_3_code 32 = .ok (.ireturn, 1) := by decide +kernel
theorem d6_33 : decode method_3_code 33 = .ok (.iload_n 1, 1) := by decide +kernel
theorem d6_34 : decode method_3_code 34 = .ok (.iconst 2, 1) := by decide +kernel
theorem d6_35 : decode method_3_code 35 = .ok (.if_icmp .ne 20, 3) := by decide +kernel
theorem d6_38 : decode method_3_code 38 = .ok (.aload_n 0, 1) := by decide +kernel
theorem d6_39 : decode method_3_code 39 = .ok (.invokevirtual 33, 3) := by decide +kernel
theorem d6_42 : decode method_3_code 42 = .ok (.pop, 1) := by decide +kernel
theorem d6_43 : decode method_3_code 43 = .ok (.iload_n 2, 1) := by decide +kernel
theorem d6_44 : decode method_3_code 44 = .ok (.ifCond .le 9, 3) := by decide +kernel
theorem d6_47 : decode method_3_code 47 = .ok (.iload_n 2, 1) := by decide +kernel
theorem d6_48 : decode method_3_code 48 = .ok (.iconst 1, 1) := by decide +kernel
theorem d6_49 : decode method_3_code 49 = .ok (.isub, 1) := by decide +kernel
theorem d6_50 : decode method_3_code 50 = .ok (.goto 4, 3) := by decide +kernel
theorem d6_53 : decode method_3_code 53 = .ok (.iconst 0, 1) := by decide +kernel
theorem d6_54 : decode method_3_code 54 = .ok (.ireturn, 1) := by decide +kernel
theorem d6_55 : decode method_3_code 55 = .ok (.aload_n 0, 1) := by decide +kernel
theorem d6_56 : decode method_3_code 56 = .ok (.invokevirtual 37, 3) := by decide +kernel
theorem d6_59 : decode method_3_code 59 = .ok (.pop, 1) := by decide +kernel
theorem d6_60 : decode method_3_code 60 = .ok (.iconst 0, 1) := by decide +kernel
theorem d6_61 : decode method_3_code 61 = .ok (.ireturn, 1) := by decide +kernel
theorem pn_6 : plainName "com/example/brigid/brigid/core/WaitingLineIsEmptyPinLaw" = true := by first | (simp [plainName, overriddenIn]; done) | decide +kernel
theorem pd_6_0 : parseMethodDescriptor "(I)Ljava/lang/Integer;" = some ⟨[.int], some (.object "java/lang/Integer")⟩ := by decide +kernel
theorem pd_6_1 : parseMethodDescriptor "(Ljava/lang/Object;)V" = some ⟨[(.object "java/lang/Object")], none⟩ := by decide +kernel
theorem pd_6_2 : parseMethodDescriptor "()Ljava/lang/Object;" = some ⟨[], some (.object "java/lang/Object")⟩ := by decide +kernel
theorem pd_6_3 : parseMethodDescriptor "()Ljava/util/List;" = some ⟨[], some (.object "java/util/List")⟩ := by decide +kernel
theorem ef_6 (m : MethodId) (A0 : Addr) (P1 : Int32) (P3 : Int32) : entryFrame m #[(.ref A0), (.int P1), (.int (Int32.ofNat CN)), (.int P3)] 4 = mkF m 0 #[.val (.ref A0), .val (.int P1), .val (.int (Int32.ofNat CN)), .val (.int P3)] [] := by first | (simp [entryFrame, mkF, argsToLocals, Value.category]; done) | rfl
def Q6 (Z : State) (A0 : Addr) (P1 : Int32) (P3 : Int32) (D0 : Addr) (E0 : Addr) (FF : Nat → Value) (HD : Nat) (CN : Nat) (U0 : Addr) (MO : Addr) (MA : Addr) (ML : Addr) (U1 : Addr) (h0 : Heap) (n0 : Nat) (v : Option Value) (h : Heap) (L : List Loc) : Prop := ∃ FG : Nat → Value, ∃ HG : Nat, ∃ CG : Nat, (v = some (.int (Int32.ofNat CG))) ∧ (Fr n0 L) ∧ (Keep h0 h [A0, D0, E0]) ∧ (Exa Z h A0 "com/example/brigid/brigid/core/WaitingLine") ∧ (Fld Z h A0 "com/example/brigid/brigid/core/WaitingLine" "line" "Ljava/util/Deque;" (.ref D0)) ∧ (Fld Z h A0 "com/example/brigid/brigid/core/WaitingLine" "size" "I" (.int (Int32.ofNat CG))) ∧ (Exa Z h D0 "java/util/ArrayDeque") ∧ (Fld Z h D0 "java/util/ArrayDeque" "elements" "[Ljava/lang/Object;" (.ref E0)) ∧ (Fld Z h D0 "java/util/ArrayDeque" "head" "I" (.int (Int32.ofNat HG))) ∧ (Fld Z h D0 "java/util/ArrayDeque" "tail" "I" (.int (Int32.ofNat ((HG + CG) % 17)))) ∧ (own_El Z h E0 FG) ∧ (own_Dq FG HG CG) ∧ (CG ≤ CN + 1)
set_option maxRecDepth 65536 in
set_option maxHeartbeats 40000000 in
theorem rm6 (l : Launch) (Z : State) (a0 : Array Value) (hw : ∀ d ∈ tables_1, d.before a0 Z = true) (ws : List Jvm.Cond) (A0 : Addr) (P1 : Int32) (P3 : Int32) (D0 : Addr) (E0 : Addr) (FF : Nat → Value) (HD : Nat) (CN : Nat) (U0 : Addr) (MO : Addr) (MA : Addr) (ML : Addr) (U1 : Addr) (h0 : Heap) (n0 : Nat) (Z0 : n0 ≤ h0.size) (pm0 : Exa Z h0 A0 "com/example/brigid/brigid/core/WaitingLine") (pm1 : Fld Z h0 A0 "com/example/brigid/brigid/core/WaitingLine" "line" "Ljava/util/Deque;" (.ref D0)) (pm2 : Fld Z h0 A0 "com/example/brigid/brigid/core/WaitingLine" "size" "I" (.int (Int32.ofNat CN))) (pm3 : Exa Z h0 D0 "java/util/ArrayDeque") (pm4 : Fld Z h0 D0 "java/util/ArrayDeque" "elements" "[Ljava/lang/Object;" (.ref E0)) (pm5 : Fld Z h0 D0 "java/util/ArrayDeque" "head" "I" (.int (Int32.ofNat HD))) (pm6 : Fld Z h0 D0 "java/util/ArrayDeque" "tail" "I" (.int (Int32.ofNat ((HD + CN) % 17)))) (pm7 : own_El Z h0 E0 FF) (hq : own_Dq FF HD CN) (hc : CN + 1 ≤ 4) (pm10 : Sta Z h0 "java/lang/Integer$IntegerCache" "cache" "[Ljava/lang/Integer;" (.ref U0)) (pm11 : Sta Z h0 "java/lang/Integer$IntegerCache" "high" "I" (.int (127 : Int32))) (pm12 : own_Cac Z h0 "java/lang/Integer" U0) (pm13 : Sta Z h0 "java/util/ArrayList" "EMPTY_ELEMENTDATA" "[Ljava/lang/Object;" (.ref U1)) (mO : own_Mi Z "[Ljava/lang/Object;" MO) (mA : own_Mi Z "java/util/ArrayDeque" MA) (mL : own_Mi Z "java/util/ArrayList" ML) (nAD : A0 ≠ D0) (nAE : A0 ≠ E0) (nDE : D0 ≠ E0) (g_A0 : n0 ≤ A0) (g_D0 : n0 ≤ D0) (g_E0 : n0 ≤ E0) :
    MetFree l (⟨"com/example/brigid/brigid/core/WaitingLineIsEmptyPinLaw", "step", "(Lcom/example/brigid/brigid/core/WaitingLine;III)I"⟩ : MethodName) (head1 (Jvm.Cond.code (⟨"com/example/brigid/brigid/core/WaitingLineIsEmptyPinLaw", "step", "(Lcom/example/brigid/brigid/core/WaitingLine;III)I"⟩ : MethodName) method_3_code 4 (some .int) :: ws) ({ frames := 6, cells := 3, slots := 11, locals := 93 } : Room)) (fun a U => a = #[(.ref A0), (.int P1), (.int (Int32.ofNat CN)), (.int P3)] ∧ Z.Warmed39 U.vm ∧ U.heap = h0) (fun _ _ _ _ _ => True) (fun _ U o U' => ∃ v L, o = .returned v ∧ Q6 Z A0 P1 P3 D0 E0 FF HD CN U0 MO MA ML U1 h0 n0 v U'.heap L ∧ FrameEnd U o U' L ({ frames := 6, cells := 3, slots := 11, locals := 93 } : Room).cells ({ frames := 6, cells := 3, slots := 11, locals := 93 } : Room).slots) := by
  refine MetFree.of_bodySF (plainFor_of_name pn_6) hisR ?_
  intro p e s m args below meth c s₁ Bd hml0 hP hK
  obtain ⟨rfl, hZ, hh⟩ := hP
  have hx := Bd.exec
  have hby := Bd.bytes
  have hml : c.maxLocals = 4 := hml0
  have hown : s.vm.findClass "com/example/brigid/brigid/core/WaitingLineIsEmptyPinLaw" = some m.cls := findClass_of_methodNamed Bd.named
  have hnm := (name_of_methodNamed Bd.named Bd.method).1
  have X0 : Stand p l e ({ frames := 6, cells := 3, slots := 11, locals := 93 } : Room) s m #[(.ref A0), (.int P1), (.int (Int32.ofNat CN)), (.int P3)] below meth c s₁ [] 0 0 := Stand.of_body Bd
  have e0 : s₁.heap = h0 := by rw [← hh, Bd.state]; rfl
  have N0 := Fr.nil n0
  have pre0 : ∀ t, Steps p.tables e below (s₁.setTop (mkF m 0 #[.val (.ref A0), .val (.int P1), .val (.int (Int32.ofNat CN)), .val (.int P3)] [])) t → Steps p.tables e below (s₁.setTop (entryFrame m #[(.ref A0), (.int P1), (.int (Int32.ofNat CN)), (.int P3)] 4)) t := fun t k => castTop (ef_6 m A0 P1 P3) k
  have K_0 : Keep h0 h0 [A0, D0, E0] := Keep.refl h0 _
  have hq1 := hq.1
  have hq2 := hq.2.1
  have pre101 : ∀ t, Steps p.tables e below (s₁.setTop (mkF m 1 #[.val (.ref A0), .val (.int P1), .val (.int (Int32.ofNat CN)), .val (.int P3)] [(.int P1)])) t → Steps p.tables e below (s₁.setTop (entryFrame m #[(.ref A0), (.int P1), (.int (Int32.ofNat CN)), (.int P3)] 4)) t := fun t kt => pre0 t (by
      show Steps p.tables e below (s₁.setTop (mkF m 0 #[.val (.ref A0), .val (.int P1), .val (.int (Int32.ofNat CN)), .val (.int P3)] [])) _
      refine XS.iloadN X0.here hx rfl (hb hby d6_0) rfl ?_
      exact kt)
  by_cases hc1 : P1 = (0 : Int32)
  · obtain ⟨_, _, ⟨T102, L102, k102, n102⟩, -, X102, ⟨Lc102, hQ102, l102, y102, z102⟩, st102⟩ := Jvm.LawKit.callS X0 hx (y := (⟨"java/lang/Integer", "valueOf", "(I)Ljava/lang/Integer;"⟩ : MethodName)) hown (mvT hZ (hw _ (List.mem_of_getElem? (i := 39) rfl))) (mvT hZ (hw _ (List.mem_of_getElem? (i := 40) rfl))) (mvT hZ (hw _ (List.mem_of_getElem? (i := 41) rfl))) (mvT hZ (hw _ (List.mem_of_getElem? (i := 42) rfl))) (by decide) (backOf (W := 1) (rm7 l Z a0 hw [] P3 U0 h0 n0 Z0 pm10 pm11 pm12) hZ (hw _ (List.mem_of_getElem? (i := 42) rfl)) (hw _ (List.mem_of_getElem? (i := 41) rfl)) (by decide) (by decide)) (g := (mkF m 6 #[.val (.ref A0), .val (.int P1), .val (.int (Int32.ofNat CN)), .val (.int P3)] [(.int P3), (.ref A0)])) rfl (by rw [hml]; rfl) (argsL := [(.int P3)]) (rest := [(.ref A0)]) (lenOf pd_6_0 rfl) rfl (by show 2 * 0 + _ ≤ _; exact Nat.le_of_eq rfl) (hb hby d6_6) (fun _ _ => ⟨rfl, e0, (by decide : 0 + 1 ≤ _), (by decide : 0 + 1 ≤ _)⟩)
    dsimp only [Pt.U, Pt.locs, Pt.cells, Pt.slots] at X102 l102 y102 z102 st102 hQ102
    subst l102 y102 z102
    obtain ⟨x102_R0, rfl, N102q, K102, p102_0⟩ := hQ102
    have N102 := Fr.app N0 N102q
    have Z103 : n0 ≤ T102.heap.size := Nat.le_trans Z0 K102.1
    have K_103 : Keep h0 T102.heap [A0, D0, E0] := K_0.trans K102 all0
    have ss102_0 : Sta Z T102.heap "java/lang/Integer$IntegerCache" "cache" "[Ljava/lang/Integer;" (.ref U0) := own_sta_keep pm10 K102 all0
    have ss102_1 : Sta Z T102.heap "java/lang/Integer$IntegerCache" "high" "I" (.int (127 : Int32)) := own_sta_keep pm11 K102 all0
    have ss102_2 : Sta Z T102.heap "java/util/ArrayList" "EMPTY_ELEMENTDATA" "[Ljava/lang/Object;" (.ref U1) := own_sta_keep pm13 K102 all0
    have c104 : Exa Z T102.heap A0 "com/example/brigid/brigid/core/WaitingLine" := (pm0.keep K102)
    have c105 : Fld Z T102.heap A0 "com/example/brigid/brigid/core/WaitingLine" "line" "Ljava/util/Deque;" (.ref D0) := (pm1.keep K102 nin0)
    have c106 : Fld Z T102.heap A0 "com/example/brigid/brigid/core/WaitingLine" "size" "I" (.int (Int32.ofNat CN)) := (pm2.keep K102 nin0)
    have c107 : Exa Z T102.heap D0 "java/util/ArrayDeque" := (pm3.keep K102)
    have c108 : Fld Z T102.heap D0 "java/util/ArrayDeque" "elements" "[Ljava/lang/Object;" (.ref E0) := (pm4.keep K102 nin0)
    have c109 : Fld Z T102.heap D0 "java/util/ArrayDeque" "head" "I" (.int (Int32.ofNat HD)) := (pm5.keep K102 nin0)
    have c110 : Fld Z T102.heap D0 "java/util/ArrayDeque" "tail" "I" (.int (Int32.ofNat ((HD + CN) % 17))) := (pm6.keep K102 nin0)
    have c111 : own_El Z T102.heap E0 FF := (pm7.keep K102 nin0)
    obtain ⟨cq112, kq112, q112a, q112b, q112c⟩ := isOf hZ rfl c104
    obtain ⟨_, _, ⟨T112, L112, k112, n112⟩, -, X112, ⟨Lc112, hQ112, l112, y112, z112⟩, st112⟩ := X102.virtualBack hx (y := (⟨"com/example/brigid/brigid/core/WaitingLine", "join", "(Ljava/lang/Object;)V"⟩ : MethodName)) (z := (⟨"com/example/brigid/brigid/core/WaitingLine", "join", "(Ljava/lang/Object;)V"⟩ : MethodName)) hown (mvT hZ (hw _ (List.mem_of_getElem? (i := 46) rfl))) (mvT hZ (hw _ (List.mem_of_getElem? (i := 47) rfl))) (notFace_of_selects (args := #[]) (mvT hZ (hw _ (List.mem_of_getElem? (i := 49) rfl)))) (mvT hZ (hw _ (List.mem_of_getElem? (i := 49) rfl))) (mvT hZ (hw _ (List.mem_of_getElem? (i := 48) rfl))) (by decide) (backOf (W := 0) (rm8 l Z a0 hw [] A0 x102_R0 D0 E0 FF HD CN T102.heap n0 Z103 c104 c105 c106 c107 c108 c109 c110 c111 p102_0 (show CN + 1 ≤ 4 from hc) (show own_Dq FF HD CN from hq) (show A0 ≠ D0 from nAD) (show A0 ≠ E0 from nAE) (show D0 ≠ E0 from nDE) g_A0 g_D0 g_E0) hZ (hw _ (List.mem_of_getElem? (i := 50) rfl)) (hw _ (List.mem_of_getElem? (i := 2) rfl)) (by decide) (by decide)) q112a q112c (g := (mkF m 9 #[.val (.ref A0), .val (.int P1), .val (.int (Int32.ofNat CN)), .val (.int P3)] [(.ref x102_R0), (.ref A0)])) rfl (by rw [hml]; rfl) (Steps.refl _) (argsL := [(.ref x102_R0)]) (rest := []) (lenOf pd_6_1 rfl) rfl (by show 2 * 0 + _ ≤ _; exact Nat.le_of_eq rfl) (hb hby d6_9) (fun _ _ => ⟨rfl, rfl, (by decide : 1 + 0 ≤ _), (by decide : 1 + 0 ≤ _)⟩)
    dsimp only [Pt.U, Pt.locs, Pt.cells, Pt.slots] at X112 l112 y112 z112 st112 hQ112
    subst l112 y112 z112
    obtain ⟨rfl, N112q, K112, p112_0, p112_1, p112_2, p112_3, p112_4, p112_5, p112_6, p112_7, p112_8⟩ := hQ112
    have N112 := Fr.app N102 N112q
    have Z113 : n0 ≤ T112.heap.size := Nat.le_trans Z103 K112.1
    have K_113 : Keep h0 T112.heap [A0, D0, E0] := K_103.trans K112 (allS (Or.inl (List.mem_of_getElem? (i := 0) rfl)) (allS (Or.inl (List.mem_of_getElem? (i := 1) rfl)) (allS (Or.inl (List.mem_of_getElem? (i := 2) rfl)) all0)))
    have ss112_0 : Sta Z T112.heap "java/lang/Integer$IntegerCache" "cache" "[Ljava/lang/Integer;" (.ref U0) := own_sta_keep ss102_0 K112 (allS (own_ns c104) (allS (own_ns c107) (allS (own_nsE c111) all0)))
    have ss112_1 : Sta Z T112.heap "java/lang/Integer$IntegerCache" "high" "I" (.int (127 : Int32)) := own_sta_keep ss102_1 K112 (allS (own_ns c104) (allS (own_ns c107) (allS (own_nsE c111) all0)))
    have ss112_2 : Sta Z T112.heap "java/util/ArrayList" "EMPTY_ELEMENTDATA" "[Ljava/lang/Object;" (.ref U1) := own_sta_keep ss102_2 K112 (allS (own_ns c104) (allS (own_ns c107) (allS (own_nsE c111) all0)))
    have pre114 : ∀ t, Steps p.tables e below (T112.setTop (mkF m 15 #[.val (.ref A0), .val (.int P1), .val (.int (Int32.ofNat CN)), .val (.int P3)] [(.int ((Int32.ofNat CN) + (1 : Int32)))])) t → Steps p.tables e below (s₁.setTop (entryFrame m #[(.ref A0), (.int P1), (.int (Int32.ofNat CN)), (.int P3)] 4)) t := fun t kt => pre101 t (by
        show Steps p.tables e below (s₁.setTop (mkF m 1 #[.val (.ref A0), .val (.int P1), .val (.int (Int32.ofNat CN)), .val (.int P3)] [(.int P1)])) _
        refine XS.ifNo X0.here hx rfl (hb hby d6_1) rfl ((if0 _ _).trans (teq hc1).2) ?_
        show Steps p.tables e below (s₁.setTop (mkF m 4 #[.val (.ref A0), .val (.int P1), .val (.int (Int32.ofNat CN)), .val (.int P3)] [])) _
        refine XS.aloadN X0.here hx rfl (hb hby d6_4) rfl rfl ?_
        show Steps p.tables e below (s₁.setTop (mkF m 5 #[.val (.ref A0), .val (.int P1), .val (.int (Int32.ofNat CN)), .val (.int P3)] [(.ref A0)])) _
        refine XS.iloadN X0.here hx rfl (hb hby d6_5) rfl ?_
        show Steps p.tables e below (s₁.setTop (mkF m 6 #[.val (.ref A0), .val (.int P1), .val (.int (Int32.ofNat CN)), .val (.int P3)] [(.int P3), (.ref A0)])) _
        refine st102 _ ?_
        show Steps p.tables e below (T102.setTop (mkF m 9 #[.val (.ref A0), .val (.int P1), .val (.int (Int32.ofNat CN)), .val (.int P3)] [(.ref x102_R0), (.ref A0)])) _
        refine st112.trans ?_
        show Steps p.tables e below (T112.setTop (mkF m 12 #[.val (.ref A0), .val (.int P1), .val (.int (Int32.ofNat CN)), .val (.int P3)] [])) _
        refine XS.iloadN X112.here hx rfl (hb hby d6_12) rfl ?_
        show Steps p.tables e below (T112.setTop (mkF m 13 #[.val (.ref A0), .val (.int P1), .val (.int (Int32.ofNat CN)), .val (.int P3)] [(.int (Int32.ofNat CN))])) _
        refine XS.iconst X112.here hx rfl (hb hby d6_13) ?_
        show Steps p.tables e below (T112.setTop (mkF m 14 #[.val (.ref A0), .val (.int P1), .val (.int (Int32.ofNat CN)), .val (.int P3)] [(.int (1 : Int32)), (.int (Int32.ofNat CN))])) _
        refine XS.iadd X112.here hx rfl (hb hby d6_14) rfl ?_
        exact kt)
    obtain ⟨fs, hr, hrun, hended, hW, hsame⟩ := X112.leave (v := some (.int ((Int32.ofNat CN) + (1 : Int32)))) (fun h => by rw [Bd.returns] at h; cases h)
    refine ⟨_, _, pre114 _ ?_, hrun, hended, _, _, rfl, ?_, ⟨_, rfl⟩, hW, hsame.mono (by decide) (by decide)⟩
    · show Steps p.tables e below (T112.setTop (mkF m 15 #[.val (.ref A0), .val (.int P1), .val (.int (Int32.ofNat CN)), .val (.int P3)] [(.int ((Int32.ofNat CN) + (1 : Int32)))])) _
      exact retI X112 hx Bd.returns (hb hby d6_15) hr
    · show Q6 Z A0 P1 P3 D0 E0 FF HD CN U0 MO MA ML U1 h0 n0 _ T112.heap _
      exact ⟨(own_up FF ((HD + CN) % 17) (.ref x102_R0)), HD, (CN + 1), (congrArg (fun z => some (Value.int z)) (show ((Int32.ofNat CN) + (1 : Int32)) = Int32.ofNat (CN + 1) from (Int32.ofNat_add CN 1).symm)), N112, K_113, p112_0, p112_1, p112_2, p112_3, p112_4, p112_5, p112_6, p112_7, p112_8, (by omega)⟩
  · have pre115 : ∀ t, Steps p.tables e below (s₁.setTop (mkF m 18 #[.val (.ref A0), .val (.int P1), .val (.int (Int32.ofNat CN)), .val (.int P3)] [(.int (1 : Int32)), (.int P1)])) t → Steps p.tables e below (s₁.setTop (entryFrame m #[(.ref A0), (.int P1), (.int (Int32.ofNat CN)), (.int P3)] 4)) t := fun t kt => pre101 t (by
        show Steps p.tables e below (s₁.setTop (mkF m 1 #[.val (.ref A0), .val (.int P1), .val (.int (Int32.ofNat CN)), .val (.int P3)] [(.int P1)])) _
        refine XS.ifYes X0.here hx rfl (pc0 := 1) (pc' := 16) rfl (hb hby d6_1) rfl ((if0 _ _).trans (feq hc1).2) (by decide) (by decide) ?_
        show Steps p.tables e below (s₁.setTop (mkF m 16 #[.val (.ref A0), .val (.int P1), .val (.int (Int32.ofNat CN)), .val (.int P3)] [])) _
        refine XS.iloadN X0.here hx rfl (hb hby d6_16) rfl ?_
        show Steps p.tables e below (s₁.setTop (mkF m 17 #[.val (.ref A0), .val (.int P1), .val (.int (Int32.ofNat CN)), .val (.int P3)] [(.int P1)])) _
        refine XS.iconst X0.here hx rfl (hb hby d6_17) ?_
        exact kt)
    by_cases hc18 : P1 = (1 : Int32)
    · obtain ⟨_, _, ⟨T116, L116, k116, n116⟩, -, X116, ⟨Lc116, hQ116, l116, y116, z116⟩, st116⟩ := Jvm.LawKit.callS X0 hx (y := (⟨"java/lang/Integer", "valueOf", "(I)Ljava/lang/Integer;"⟩ : MethodName)) hown (mvT hZ (hw _ (List.mem_of_getElem? (i := 39) rfl))) (mvT hZ (hw _ (List.mem_of_getElem? (i := 40) rfl))) (mvT hZ (hw _ (List.mem_of_getElem? (i := 41) rfl))) (mvT hZ (hw _ (List.mem_of_getElem? (i := 42) rfl))) (by decide) (backOf (W := 1) (rm7 l Z a0 hw [] P3 U0 h0 n0 Z0 pm10 pm11 pm12) hZ (hw _ (List.mem_of_getElem? (i := 42) rfl)) (hw _ (List.mem_of_getElem? (i := 41) rfl)) (by decide) (by decide)) (g := (mkF m 23 #[.val (.ref A0), .val (.int P1), .val (.int (Int32.ofNat CN)), .val (.int P3)] [(.int P3), (.ref A0)])) rfl (by rw [hml]; rfl) (argsL := [(.int P3)]) (rest := [(.ref A0)]) (lenOf pd_6_0 rfl) rfl (by show 2 * 0 + _ ≤ _; exact Nat.le_of_eq rfl) (hb hby d6_23) (fun _ _ => ⟨rfl, e0, (by decide : 0 + 1 ≤ _), (by decide : 0 + 1 ≤ _)⟩)
      dsimp only [Pt.U, Pt.locs, Pt.cells, Pt.slots] at X116 l116 y116 z116 st116 hQ116
      subst l116 y116 z116
      obtain ⟨x116_R0, rfl, N116q, K116, p116_0⟩ := hQ116
      have N116 := Fr.app N0 N116q
      have Z117 : n0 ≤ T116.heap.size := Nat.le_trans Z0 K116.1
      have K_117 : Keep h0 T116.heap [A0, D0, E0] := K_0.trans K116 all0
      have ss116_0 : Sta Z T116.heap "java/lang/Integer$IntegerCache" "cache" "[Ljava/lang/Integer;" (.ref U0) := own_sta_keep pm10 K116 all0
      have ss116_1 : Sta Z T116.heap "java/lang/Integer$IntegerCache" "high" "I" (.int (127 : Int32)) := own_sta_keep pm11 K116 all0
      have ss116_2 : Sta Z T116.heap "java/util/ArrayList" "EMPTY_ELEMENTDATA" "[Ljava/lang/Object;" (.ref U1) := own_sta_keep pm13 K116 all0
      have c118 : Exa Z T116.heap A0 "com/example/brigid/brigid/core/WaitingLine" := (pm0.keep K116)
      have c119 : Fld Z T116.heap A0 "com/example/brigid/brigid/core/WaitingLine" "line" "Ljava/util/Deque;" (.ref D0) := (pm1.keep K116 nin0)
      have c120 : Fld Z T116.heap A0 "com/example/brigid/brigid/core/WaitingLine" "size" "I" (.int (Int32.ofNat CN)) := (pm2.keep K116 nin0)
      have c121 : Exa Z T116.heap D0 "java/util/ArrayDeque" := (pm3.keep K116)
      have c122 : Fld Z T116.heap D0 "java/util/ArrayDeque" "elements" "[Ljava/lang/Object;" (.ref E0) := (pm4.keep K116 nin0)
      have c123 : Fld Z T116.heap D0 "java/util/ArrayDeque" "head" "I" (.int (Int32.ofNat HD)) := (pm5.keep K116 nin0)
      have c124 : Fld Z T116.heap D0 "java/util/ArrayDeque" "tail" "I" (.int (Int32.ofNat ((HD + CN) % 17))) := (pm6.keep K116 nin0)
      have c125 : own_El Z T116.heap E0 FF := (pm7.keep K116 nin0)
      obtain ⟨cq126, kq126, q126a, q126b, q126c⟩ := isOf hZ rfl c118
      obtain ⟨_, _, ⟨T126, L126, k126, n126⟩, -, X126, ⟨Lc126, hQ126, l126, y126, z126⟩, st126⟩ := X116.virtualBack hx (y := (⟨"com/example/brigid/brigid/core/WaitingLine", "joinFirst", "(Ljava/lang/Object;)V"⟩ : MethodName)) (z := (⟨"com/example/brigid/brigid/core/WaitingLine", "joinFirst", "(Ljava/lang/Object;)V"⟩ : MethodName)) hown (mvT hZ (hw _ (List.mem_of_getElem? (i := 192) rfl))) (mvT hZ (hw _ (List.mem_of_getElem? (i := 193) rfl))) (notFace_of_selects (args := #[]) (mvT hZ (hw _ (List.mem_of_getElem? (i := 195) rfl)))) (mvT hZ (hw _ (List.mem_of_getElem? (i := 195) rfl))) (mvT hZ (hw _ (List.mem_of_getElem? (i := 194) rfl))) (by decide) (backOf (W := 0) (rm28 l Z a0 hw [] A0 x116_R0 D0 E0 FF HD CN T116.heap n0 Z117 c118 c119 c120 c121 c122 c123 c124 c125 p116_0 (show CN + 1 ≤ 4 from hc) (show own_Dq FF HD CN from hq) (show A0 ≠ D0 from nAD) (show A0 ≠ E0 from nAE) (show D0 ≠ E0 from nDE) g_A0 g_D0 g_E0) hZ (hw _ (List.mem_of_getElem? (i := 196) rfl)) (hw _ (List.mem_of_getElem? (i := 2) rfl)) (by decide) (by decide)) q126a q126c (g := (mkF m 26 #[.val (.ref A0), .val (.int P1), .val (.int (Int32.ofNat CN)), .val (.int P3)] [(.ref x116_R0), (.ref A0)])) rfl (by rw [hml]; rfl) (Steps.refl _) (argsL := [(.ref x116_R0)]) (rest := []) (lenOf pd_6_1 rfl) rfl (by show 2 * 0 + _ ≤ _; exact Nat.le_of_eq rfl) (hb hby d6_26) (fun _ _ => ⟨rfl, rfl, (by decide : 1 + 0 ≤ _), (by decide : 1 + 0 ≤ _)⟩)
      dsimp only [Pt.U, Pt.locs, Pt.cells, Pt.slots] at X126 l126 y126 z126 st126 hQ126
      subst l126 y126 z126
      obtain ⟨rfl, N126q, K126, p126_0, p126_1, p126_2, p126_3, p126_4, p126_5, p126_6, p126_7, p126_8⟩ := hQ126
      have N126 := Fr.app N116 N126q
      have Z127 : n0 ≤ T126.heap.size := Nat.le_trans Z117 K126.1
      have K_127 : Keep h0 T126.heap [A0, D0, E0] := K_117.trans K126 (allS (Or.inl (List.mem_of_getElem? (i := 0) rfl)) (allS (Or.inl (List.mem_of_getElem? (i := 1) rfl)) (allS (Or.inl (List.mem_of_getElem? (i := 2) rfl)) all0)))
      have ss126_0 : Sta Z T126.heap "java/lang/Integer$IntegerCache" "cache" "[Ljava/lang/Integer;" (.ref U0) := own_sta_keep ss116_0 K126 (allS (own_ns c118) (allS (own_ns c121) (allS (own_nsE c125) all0)))
      have ss126_1 : Sta Z T126.heap "java/lang/Integer$IntegerCache" "high" "I" (.int (127 : Int32)) := own_sta_keep ss116_1 K126 (allS (own_ns c118) (allS (own_ns c121) (allS (own_nsE c125) all0)))
      have ss126_2 : Sta Z T126.heap "java/util/ArrayList" "EMPTY_ELEMENTDATA" "[Ljava/lang/Object;" (.ref U1) := own_sta_keep ss116_2 K126 (allS (own_ns c118) (allS (own_ns c121) (allS (own_nsE c125) all0)))
      have pre128 : ∀ t, Steps p.tables e below (T126.setTop (mkF m 32 #[.val (.ref A0), .val (.int P1), .val (.int (Int32.ofNat CN)), .val (.int P3)] [(.int ((Int32.ofNat CN) + (1 : Int32)))])) t → Steps p.tables e below (s₁.setTop (entryFrame m #[(.ref A0), (.int P1), (.int (Int32.ofNat CN)), (.int P3)] 4)) t := fun t kt => pre115 t (by
          show Steps p.tables e below (s₁.setTop (mkF m 18 #[.val (.ref A0), .val (.int P1), .val (.int (Int32.ofNat CN)), .val (.int P3)] [(.int (1 : Int32)), (.int P1)])) _
          refine XS.icmpNo X0.here hx rfl (hb hby d6_18) rfl (teq hc18).2 ?_
          show Steps p.tables e below (s₁.setTop (mkF m 21 #[.val (.ref A0), .val (.int P1), .val (.int (Int32.ofNat CN)), .val (.int P3)] [])) _
          refine XS.aloadN X0.here hx rfl (hb hby d6_21) rfl rfl ?_
          show Steps p.tables e below (s₁.setTop (mkF m 22 #[.val (.ref A0), .val (.int P1), .val (.int (Int32.ofNat CN)), .val (.int P3)] [(.ref A0)])) _
          refine XS.iloadN X0.here hx rfl (hb hby d6_22) rfl ?_
          show Steps p.tables e below (s₁.setTop (mkF m 23 #[.val (.ref A0), .val (.int P1), .val (.int (Int32.ofNat CN)), .val (.int P3)] [(.int P3), (.ref A0)])) _
          refine st116 _ ?_
          show Steps p.tables e below (T116.setTop (mkF m 26 #[.val (.ref A0), .val (.int P1), .val (.int (Int32.ofNat CN)), .val (.int P3)] [(.ref x116_R0), (.ref A0)])) _
          refine st126.trans ?_
          show Steps p.tables e below (T126.setTop (mkF m 29 #[.val (.ref A0), .val (.int P1), .val (.int (Int32.ofNat CN)), .val (.int P3)] [])) _
          refine XS.iloadN X126.here hx rfl (hb hby d6_29) rfl ?_
          show Steps p.tables e below (T126.setTop (mkF m 30 #[.val (.ref A0), .val (.int P1), .val (.int (Int32.ofNat CN)), .val (.int P3)] [(.int (Int32.ofNat CN))])) _
          refine XS.iconst X126.here hx rfl (hb hby d6_30) ?_
          show Steps p.tables e below (T126.setTop (mkF m 31 #[.val (.ref A0), .val (.int P1), .val (.int (Int32.ofNat CN)), .val (.int P3)] [(.int (1 : Int32)), (.int (Int32.ofNat CN))])) _
          refine XS.iadd X126.here hx rfl (hb hby d6_31) rfl ?_
          exact kt)
      obtain ⟨fs, hr, hrun, hended, hW, hsame⟩ := X126.leave (v := some (.int ((Int32.ofNat CN) + (1 : Int32)))) (fun h => by rw [Bd.returns] at h; cases h)
      refine ⟨_, _, pre128 _ ?_, hrun, hended, _, _, rfl, ?_, ⟨_, rfl⟩, hW, hsame.mono (by decide) (by decide)⟩
      · show Steps p.tables e below (T126.setTop (mkF m 32 #[.val (.ref A0), .val (.int P1), .val (.int (Int32.ofNat CN)), .val (.int P3)] [(.int ((Int32.ofNat CN) + (1 : Int32)))])) _
        exact retI X126 hx Bd.returns (hb hby d6_32) hr
      · show Q6 Z A0 P1 P3 D0 E0 FF HD CN U0 MO MA ML U1 h0 n0 _ T126.heap _
        exact ⟨(own_up FF ((HD + 16) % 17) (.ref x116_R0)), ((HD + 16) % 17), (CN + 1), (congrArg (fun z => some (Value.int z)) (show ((Int32.ofNat CN) + (1 : Int32)) = Int32.ofNat (CN + 1) from (Int32.ofNat_add CN 1).symm)), N126, K_127, p126_0, p126_1, p126_2, p126_3, p126_4, p126_5, p126_6, p126_7, p126_8, (by omega)⟩
    · have pre129 : ∀ t, Steps p.tables e below (s₁.setTop (mkF m 35 #[.val (.ref A0), .val (.int P1), .val (.int (Int32.ofNat CN)), .val (.int P3)] [(.int (2 : Int32)), (.int P1)])) t → Steps p.tables e below (s₁.setTop (entryFrame m #[(.ref A0), (.int P1), (.int (Int32.ofNat CN)), (.int P3)] 4)) t := fun t kt => pre115 t (by
          show Steps p.tables e below (s₁.setTop (mkF m 18 #[.val (.ref A0), .val (.int P1), .val (.int (Int32.ofNat CN)), .val (.int P3)] [(.int (1 : Int32)), (.int P1)])) _
          refine XS.icmpYes X0.here hx rfl (pc0 := 18) (pc' := 33) rfl (hb hby d6_18) rfl (feq hc18).2 (by decide) (by decide) ?_
          show Steps p.tables e below (s₁.setTop (mkF m 33 #[.val (.ref A0), .val (.int P1), .val (.int (Int32.ofNat CN)), .val (.int P3)] [])) _
          refine XS.iloadN X0.here hx rfl (hb hby d6_33) rfl ?_
          show Steps p.tables e below (s₁.setTop (mkF m 34 #[.val (.ref A0), .val (.int P1), .val (.int (Int32.ofNat CN)), .val (.int P3)] [(.int P1)])) _
          refine XS.iconst X0.here hx rfl (hb hby d6_34) ?_
          exact kt)
      by_cases hc35 : P1 = (2 : Int32)
      · have pre130 : ∀ t, Steps p.tables e below (s₁.setTop (mkF m 38 #[.val (.ref A0), .val (.int P1), .val (.int (Int32.ofNat CN)), .val (.int P3)] [])) t → Steps p.tables e below (s₁.setTop (entryFrame m #[(.ref A0), (.int P1), (.int (Int32.ofNat CN)), (.int P3)] 4)) t := fun t kt => pre129 t (by
            show Steps p.tables e below (s₁.setTop (mkF m 35 #[.val (.ref A0), .val (.int P1), .val (.int (Int32.ofNat CN)), .val (.int P3)] [(.int (2 : Int32)), (.int P1)])) _
            refine XS.icmpNo X0.here hx rfl (hb hby d6_35) rfl (teq hc35).2 ?_
            exact kt)
        by_cases hc38 : CN = 0
        · obtain ⟨cq131, kq131, q131a, q131b, q131c⟩ := isOf hZ e0 pm0
          obtain ⟨_, _, ⟨T131, L131, k131, n131⟩, -, X131, ⟨Lc131, hQ131, l131, y131, z131⟩, st131⟩ := X0.virtualBack hx (y := (⟨"com/example/brigid/brigid/core/WaitingLine", "next", "()Ljava/lang/Object;"⟩ : MethodName)) (z := (⟨"com/example/brigid/brigid/core/WaitingLine", "next", "()Ljava/lang/Object;"⟩ : MethodName)) hown (mvT hZ (hw _ (List.mem_of_getElem? (i := 79) rfl))) (mvT hZ (hw _ (List.mem_of_getElem? (i := 80) rfl))) (notFace_of_selects (args := #[]) (mvT hZ (hw _ (List.mem_of_getElem? (i := 82) rfl)))) (mvT hZ (hw _ (List.mem_of_getElem? (i := 82) rfl))) (mvT hZ (hw _ (List.mem_of_getElem? (i := 81) rfl))) (by decide) (backOf (W := 0) (rmnN l Z a0 hw [] A0 D0 E0 FF HD CN h0 n0 Z0 pm0 pm1 pm2 pm3 pm4 pm5 pm6 pm7 (show CN = 0 from hc38) (show own_Dq FF HD CN from hq) (show A0 ≠ D0 from nAD) (show A0 ≠ E0 from nAE) (show D0 ≠ E0 from nDE) g_A0 g_D0 g_E0) hZ (hw _ (List.mem_of_getElem? (i := 83) rfl)) (hw _ (List.mem_of_getElem? (i := 2) rfl)) (by decide) (by decide)) q131a q131c (g := (mkF m 39 #[.val (.ref A0), .val (.int P1), .val (.int (Int32.ofNat CN)), .val (.int P3)] [(.ref A0)])) rfl (by rw [hml]; rfl) (Steps.refl _) (argsL := []) (rest := []) (lenOf pd_6_2 rfl) rfl (by show 2 * 0 + _ ≤ _; exact Nat.le_of_eq rfl) (hb hby d6_39) (fun _ _ => ⟨rfl, e0, (by decide : 0 + 0 ≤ _), (by decide : 0 + 0 ≤ _)⟩)
          dsimp only [Pt.U, Pt.locs, Pt.cells, Pt.slots] at X131 l131 y131 z131 st131 hQ131
          subst l131 y131 z131
          obtain ⟨rfl, N131q, K131, p131_0, p131_1, p131_2, p131_3, p131_4, p131_5, p131_6, p131_7, p131_8⟩ := hQ131
          have N131 := Fr.app N0 N131q
          have Z132 : n0 ≤ T131.heap.size := Nat.le_trans Z0 K131.1
          have K_132 : Keep h0 T131.heap [A0, D0, E0] := K_0.trans K131 (allS (Or.inl (List.mem_of_getElem? (i := 0) rfl)) (allS (Or.inl (List.mem_of_getElem? (i := 1) rfl)) (allS (Or.inl (List.mem_of_getElem? (i := 2) rfl)) all0)))
          have ss131_0 : Sta Z T131.heap "java/lang/Integer$IntegerCache" "cache" "[Ljava/lang/Integer;" (.ref U0) := own_sta_keep pm10 K131 (allS (own_ns pm0) (allS (own_ns pm3) (allS (own_nsE pm7) all0)))
          have ss131_1 : Sta Z T131.heap "java/lang/Integer$IntegerCache" "high" "I" (.int (127 : Int32)) := own_sta_keep pm11 K131 (allS (own_ns pm0) (allS (own_ns pm3) (allS (own_nsE pm7) all0)))
          have ss131_2 : Sta Z T131.heap "java/util/ArrayList" "EMPTY_ELEMENTDATA" "[Ljava/lang/Object;" (.ref U1) := own_sta_keep pm13 K131 (allS (own_ns pm0) (allS (own_ns pm3) (allS (own_nsE pm7) all0)))
          have pre133 : ∀ t, Steps p.tables e below (T131.setTop (mkF m 54 #[.val (.ref A0), .val (.int P1), .val (.int (Int32.ofNat CN)), .val (.int P3)] [(.int (if (0 : Int32) < (Int32.ofNat CN) then ((Int32.ofNat CN) - (1 : Int32)) else (0 : Int32)))])) t → Steps p.tables e below (s₁.setTop (entryFrame m #[(.ref A0), (.int P1), (.int (Int32.ofNat CN)), (.int P3)] 4)) t := fun t kt => pre130 t (by
              show Steps p.tables e below (s₁.setTop (mkF m 38 #[.val (.ref A0), .val (.int P1), .val (.int (Int32.ofNat CN)), .val (.int P3)] [])) _
              refine XS.aloadN X0.here hx rfl (hb hby d6_38) rfl rfl ?_
              show Steps p.tables e below (s₁.setTop (mkF m 39 #[.val (.ref A0), .val (.int P1), .val (.int (Int32.ofNat CN)), .val (.int P3)] [(.ref A0)])) _
              refine st131.trans ?_
              show Steps p.tables e below (T131.setTop (mkF m 42 #[.val (.ref A0), .val (.int P1), .val (.int (Int32.ofNat CN)), .val (.int P3)] [.null])) _
              refine XS.pop X131.here hx rfl (hb hby d6_42) rfl rfl ?_
              show Steps p.tables e below (T131.setTop (mkF m 43 #[.val (.ref A0), .val (.int P1), .val (.int (Int32.ofNat CN)), .val (.int P3)] [])) _
              refine XS.iloadN X131.here hx rfl (hb hby d6_43) rfl ?_
              show Steps p.tables e below (T131.setTop (mkF m 44 #[.val (.ref A0), .val (.int P1), .val (.int (Int32.ofNat CN)), .val (.int P3)] [(.int (Int32.ofNat CN))])) _
              by_cases hm44 : (0 : Int32) < (Int32.ofNat CN)
              · refine XS.ifNo X131.here hx rfl (hb hby d6_44) rfl ((if0 _ _).trans (tlt hm44).2.2.2) ?_
                show Steps p.tables e below (T131.setTop (mkF m 47 #[.val (.ref A0), .val (.int P1), .val (.int (Int32.ofNat CN)), .val (.int P3)] [])) _
                refine XS.iloadN X131.here hx rfl (hb hby d6_47) rfl ?_
                show Steps p.tables e below (T131.setTop (mkF m 48 #[.val (.ref A0), .val (.int P1), .val (.int (Int32.ofNat CN)), .val (.int P3)] [(.int (Int32.ofNat CN))])) _
                refine XS.iconst X131.here hx rfl (hb hby d6_48) ?_
                show Steps p.tables e below (T131.setTop (mkF m 49 #[.val (.ref A0), .val (.int P1), .val (.int (Int32.ofNat CN)), .val (.int P3)] [(.int (1 : Int32)), (.int (Int32.ofNat CN))])) _
                refine XS.isub X131.here hx rfl (hb hby d6_49) rfl ?_
                show Steps p.tables e below (T131.setTop (mkF m 50 #[.val (.ref A0), .val (.int P1), .val (.int (Int32.ofNat CN)), .val (.int P3)] [(.int ((Int32.ofNat CN) - (1 : Int32)))])) _
                refine XS.goto X131.here hx rfl (pc0 := 50) (pc' := 54) rfl (hb hby d6_50) (by decide) (by decide) ?_
                rw [show (if (0 : Int32) < (Int32.ofNat CN) then ((Int32.ofNat CN) - (1 : Int32)) else (0 : Int32)) = ((Int32.ofNat CN) - (1 : Int32)) from by first | exact if_pos hm44 | exact if_neg hm44 | exact if_neg (fun q => q hm44) | simp [hm44]] at kt
                exact kt
              · refine XS.ifYes X131.here hx rfl (pc0 := 44) (pc' := 53) rfl (hb hby d6_44) rfl ((if0 _ _).trans (flt hm44).2.2.2) (by decide) (by decide) ?_
                show Steps p.tables e below (T131.setTop (mkF m 53 #[.val (.ref A0), .val (.int P1), .val (.int (Int32.ofNat CN)), .val (.int P3)] [])) _
                refine XS.iconst X131.here hx rfl (hb hby d6_53) ?_
                rw [show (if (0 : Int32) < (Int32.ofNat CN) then ((Int32.ofNat CN) - (1 : Int32)) else (0 : Int32)) = (0 : Int32) from by first | exact if_pos hm44 | exact if_neg hm44 | exact if_neg (fun q => q hm44) | simp [hm44]] at kt
                exact kt)
          have pre134 : ∀ t, Steps p.tables e below (T131.setTop (mkF m 54 #[.val (.ref A0), .val (.int P1), .val (.int (Int32.ofNat CN)), .val (.int P3)] [(.int (if (0 : Int32) < (Int32.ofNat CN) then ((Int32.ofNat CN) - (1 : Int32)) else (0 : Int32)))])) t → Steps p.tables e below (s₁.setTop (entryFrame m #[(.ref A0), (.int P1), (.int (Int32.ofNat CN)), (.int P3)] 4)) t := fun t kt => pre133 t (by
              exact kt)
          obtain ⟨fs, hr, hrun, hended, hW, hsame⟩ := X131.leave (v := some (.int (if (0 : Int32) < (Int32.ofNat CN) then ((Int32.ofNat CN) - (1 : Int32)) else (0 : Int32)))) (fun h => by rw [Bd.returns] at h; cases h)
          refine ⟨_, _, pre134 _ ?_, hrun, hended, _, _, rfl, ?_, ⟨_, rfl⟩, hW, hsame.mono (by decide) (by decide)⟩
          · show Steps p.tables e below (T131.setTop (mkF m 54 #[.val (.ref A0), .val (.int P1), .val (.int (Int32.ofNat CN)), .val (.int P3)] [(.int (if (0 : Int32) < (Int32.ofNat CN) then ((Int32.ofNat CN) - (1 : Int32)) else (0 : Int32)))])) _
            exact retI X131 hx Bd.returns (hb hby d6_54) hr
          · show Q6 Z A0 P1 P3 D0 E0 FF HD CN U0 MO MA ML U1 h0 n0 _ T131.heap _
            exact ⟨FF, HD, CN, (congrArg (fun z => some (Value.int z)) (show (if (0 : Int32) < (Int32.ofNat CN) then ((Int32.ofNat CN) - (1 : Int32)) else (0 : Int32)) = Int32.ofNat CN from (own_nx0 hc38))), N131, K_132, p131_0, p131_1, p131_2, p131_3, p131_4, p131_5, p131_6, p131_7, p131_8, (by omega)⟩
        · obtain ⟨cq135, kq135, q135a, q135b, q135c⟩ := isOf hZ e0 pm0
          obtain ⟨_, _, ⟨T135, L135, k135, n135⟩, -, X135, ⟨Lc135, hQ135, l135, y135, z135⟩, st135⟩ := X0.virtualBack hx (y := (⟨"com/example/brigid/brigid/core/WaitingLine", "next", "()Ljava/lang/Object;"⟩ : MethodName)) (z := (⟨"com/example/brigid/brigid/core/WaitingLine", "next", "()Ljava/lang/Object;"⟩ : MethodName)) hown (mvT hZ (hw _ (List.mem_of_getElem? (i := 79) rfl))) (mvT hZ (hw _ (List.mem_of_getElem? (i := 80) rfl))) (notFace_of_selects (args := #[]) (mvT hZ (hw _ (List.mem_of_getElem? (i := 82) rfl)))) (mvT hZ (hw _ (List.mem_of_getElem? (i := 82) rfl))) (mvT hZ (hw _ (List.mem_of_getElem? (i := 81) rfl))) (by decide) (backOf (W := 0) (rmnR l Z a0 hw [] A0 D0 E0 FF HD CN h0 n0 Z0 pm0 pm1 pm2 pm3 pm4 pm5 pm6 pm7 (show 0 < CN from (Nat.pos_of_ne_zero hc38)) (show own_Dq FF HD CN from hq) (show A0 ≠ D0 from nAD) (show A0 ≠ E0 from nAE) (show D0 ≠ E0 from nDE) g_A0 g_D0 g_E0) hZ (hw _ (List.mem_of_getElem? (i := 83) rfl)) (hw _ (List.mem_of_getElem? (i := 2) rfl)) (by decide) (by decide)) q135a q135c (g := (mkF m 39 #[.val (.ref A0), .val (.int P1), .val (.int (Int32.ofNat CN)), .val (.int P3)] [(.ref A0)])) rfl (by rw [hml]; rfl) (Steps.refl _) (argsL := []) (rest := []) (lenOf pd_6_2 rfl) rfl (by show 2 * 0 + _ ≤ _; exact Nat.le_of_eq rfl) (hb hby d6_39) (fun _ _ => ⟨rfl, e0, (by decide : 0 + 0 ≤ _), (by decide : 0 + 0 ≤ _)⟩)
          dsimp only [Pt.U, Pt.locs, Pt.cells, Pt.slots] at X135 l135 y135 z135 st135 hQ135
          subst l135 y135 z135
          obtain ⟨x135_R0, rfl, N135q, K135, p135_0, p135_1, p135_2, p135_3, p135_4, p135_5, p135_6, p135_7, p135_8⟩ := hQ135
          have N135 := Fr.app N0 N135q
          have Z136 : n0 ≤ T135.heap.size := Nat.le_trans Z0 K135.1
          have K_136 : Keep h0 T135.heap [A0, D0, E0] := K_0.trans K135 (allS (Or.inl (List.mem_of_getElem? (i := 0) rfl)) (allS (Or.inl (List.mem_of_getElem? (i := 1) rfl)) (allS (Or.inl (List.mem_of_getElem? (i := 2) rfl)) all0)))
          have ss135_0 : Sta Z T135.heap "java/lang/Integer$IntegerCache" "cache" "[Ljava/lang/Integer;" (.ref U0) := own_sta_keep pm10 K135 (allS (own_ns pm0) (allS (own_ns pm3) (allS (own_nsE pm7) all0)))
          have ss135_1 : Sta Z T135.heap "java/lang/Integer$IntegerCache" "high" "I" (.int (127 : Int32)) := own_sta_keep pm11 K135 (allS (own_ns pm0) (allS (own_ns pm3) (allS (own_nsE pm7) all0)))
          have ss135_2 : Sta Z T135.heap "java/util/ArrayList" "EMPTY_ELEMENTDATA" "[Ljava/lang/Object;" (.ref U1) := own_sta_keep pm13 K135 (allS (own_ns pm0) (allS (own_ns pm3) (allS (own_nsE pm7) all0)))
          have pre137 : ∀ t, Steps p.tables e below (T135.setTop (mkF m 54 #[.val (.ref A0), .val (.int P1), .val (.int (Int32.ofNat CN)), .val (.int P3)] [(.int (if (0 : Int32) < (Int32.ofNat CN) then ((Int32.ofNat CN) - (1 : Int32)) else (0 : Int32)))])) t → Steps p.tables e below (s₁.setTop (entryFrame m #[(.ref A0), (.int P1), (.int (Int32.ofNat CN)), (.int P3)] 4)) t := fun t kt => pre130 t (by
              show Steps p.tables e below (s₁.setTop (mkF m 38 #[.val (.ref A0), .val (.int P1), .val (.int (Int32.ofNat CN)), .val (.int P3)] [])) _
              refine XS.aloadN X0.here hx rfl (hb hby d6_38) rfl rfl ?_
              show Steps p.tables e below (s₁.setTop (mkF m 39 #[.val (.ref A0), .val (.int P1), .val (.int (Int32.ofNat CN)), .val (.int P3)] [(.ref A0)])) _
              refine st135.trans ?_
              show Steps p.tables e below (T135.setTop (mkF m 42 #[.val (.ref A0), .val (.int P1), .val (.int (Int32.ofNat CN)), .val (.int P3)] [(.ref x135_R0)])) _
              refine XS.pop X135.here hx rfl (hb hby d6_42) rfl rfl ?_
              show Steps p.tables e below (T135.setTop (mkF m 43 #[.val (.ref A0), .val (.int P1), .val (.int (Int32.ofNat CN)), .val (.int P3)] [])) _
              refine XS.iloadN X135.here hx rfl (hb hby d6_43) rfl ?_
              show Steps p.tables e below (T135.setTop (mkF m 44 #[.val (.ref A0), .val (.int P1), .val (.int (Int32.ofNat CN)), .val (.int P3)] [(.int (Int32.ofNat CN))])) _
              by_cases hm44 : (0 : Int32) < (Int32.ofNat CN)
              · refine XS.ifNo X135.here hx rfl (hb hby d6_44) rfl ((if0 _ _).trans (tlt hm44).2.2.2) ?_
                show Steps p.tables e below (T135.setTop (mkF m 47 #[.val (.ref A0), .val (.int P1), .val (.int (Int32.ofNat CN)), .val (.int P3)] [])) _
                refine XS.iloadN X135.here hx rfl (hb hby d6_47) rfl ?_
                show Steps p.tables e below (T135.setTop (mkF m 48 #[.val (.ref A0), .val (.int P1), .val (.int (Int32.ofNat CN)), .val (.int P3)] [(.int (Int32.ofNat CN))])) _
                refine XS.iconst X135.here hx rfl (hb hby d6_48) ?_
                show Steps p.tables e below (T135.setTop (mkF m 49 #[.val (.ref A0), .val (.int P1), .val (.int (Int32.ofNat CN)), .val (.int P3)] [(.int (1 : Int32)), (.int (Int32.ofNat CN))])) _
                refine XS.isub X135.here hx rfl (hb hby d6_49) rfl ?_
                show Steps p.tables e below (T135.setTop (mkF m 50 #[.val (.ref A0), .val (.int P1), .val (.int (Int32.ofNat CN)), .val (.int P3)] [(.int ((Int32.ofNat CN) - (1 : Int32)))])) _
                refine XS.goto X135.here hx rfl (pc0 := 50) (pc' := 54) rfl (hb hby d6_50) (by decide) (by decide) ?_
                rw [show (if (0 : Int32) < (Int32.ofNat CN) then ((Int32.ofNat CN) - (1 : Int32)) else (0 : Int32)) = ((Int32.ofNat CN) - (1 : Int32)) from by first | exact if_pos hm44 | exact if_neg hm44 | exact if_neg (fun q => q hm44) | simp [hm44]] at kt
                exact kt
              · refine XS.ifYes X135.here hx rfl (pc0 := 44) (pc' := 53) rfl (hb hby d6_44) rfl ((if0 _ _).trans (flt hm44).2.2.2) (by decide) (by decide) ?_
                show Steps p.tables e below (T135.setTop (mkF m 53 #[.val (.ref A0), .val (.int P1), .val (.int (Int32.ofNat CN)), .val (.int P3)] [])) _
                refine XS.iconst X135.here hx rfl (hb hby d6_53) ?_
                rw [show (if (0 : Int32) < (Int32.ofNat CN) then ((Int32.ofNat CN) - (1 : Int32)) else (0 : Int32)) = (0 : Int32) from by first | exact if_pos hm44 | exact if_neg hm44 | exact if_neg (fun q => q hm44) | simp [hm44]] at kt
                exact kt)
          have pre138 : ∀ t, Steps p.tables e below (T135.setTop (mkF m 54 #[.val (.ref A0), .val (.int P1), .val (.int (Int32.ofNat CN)), .val (.int P3)] [(.int (if (0 : Int32) < (Int32.ofNat CN) then ((Int32.ofNat CN) - (1 : Int32)) else (0 : Int32)))])) t → Steps p.tables e below (s₁.setTop (entryFrame m #[(.ref A0), (.int P1), (.int (Int32.ofNat CN)), (.int P3)] 4)) t := fun t kt => pre137 t (by
              exact kt)
          obtain ⟨fs, hr, hrun, hended, hW, hsame⟩ := X135.leave (v := some (.int (if (0 : Int32) < (Int32.ofNat CN) then ((Int32.ofNat CN) - (1 : Int32)) else (0 : Int32)))) (fun h => by rw [Bd.returns] at h; cases h)
          refine ⟨_, _, pre138 _ ?_, hrun, hended, _, _, rfl, ?_, ⟨_, rfl⟩, hW, hsame.mono (by decide) (by decide)⟩
          · show Steps p.tables e below (T135.setTop (mkF m 54 #[.val (.ref A0), .val (.int P1), .val (.int (Int32.ofNat CN)), .val (.int P3)] [(.int (if (0 : Int32) < (Int32.ofNat CN) then ((Int32.ofNat CN) - (1 : Int32)) else (0 : Int32)))])) _
            exact retI X135 hx Bd.returns (hb hby d6_54) hr
          · show Q6 Z A0 P1 P3 D0 E0 FF HD CN U0 MO MA ML U1 h0 n0 _ T135.heap _
            exact ⟨(own_up FF HD .null), ((HD + 1) % 17), (CN - 1), (congrArg (fun z => some (Value.int z)) (show (if (0 : Int32) < (Int32.ofNat CN) then ((Int32.ofNat CN) - (1 : Int32)) else (0 : Int32)) = Int32.ofNat (CN - 1) from (own_nx1 (Nat.pos_of_ne_zero hc38) (by omega)))), N135, K_136, p135_0, p135_1, p135_2, p135_3, p135_4, p135_5, p135_6, p135_7, p135_8, (by omega)⟩
      · obtain ⟨cq139, kq139, q139a, q139b, q139c⟩ := isOf hZ e0 pm0
        obtain ⟨_, _, ⟨T139, L139, k139, n139⟩, -, X139, ⟨Lc139, hQ139, l139, y139, z139⟩, st139⟩ := X0.virtualBack hx (y := (⟨"com/example/brigid/brigid/core/WaitingLine", "clear", "()Ljava/util/List;"⟩ : MethodName)) (z := (⟨"com/example/brigid/brigid/core/WaitingLine", "clear", "()Ljava/util/List;"⟩ : MethodName)) hown (mvT hZ (hw _ (List.mem_of_getElem? (i := 95) rfl))) (mvT hZ (hw _ (List.mem_of_getElem? (i := 96) rfl))) (notFace_of_selects (args := #[]) (mvT hZ (hw _ (List.mem_of_getElem? (i := 98) rfl)))) (mvT hZ (hw _ (List.mem_of_getElem? (i := 98) rfl))) (mvT hZ (hw _ (List.mem_of_getElem? (i := 97) rfl))) (by decide) (backOf (W := 0) (rm16 l Z a0 hw [] A0 D0 E0 FF HD CN MO MA ML U1 h0 n0 Z0 pm0 pm1 pm2 pm3 pm4 pm5 pm6 pm7 (show own_Dq FF HD CN from hq) pm13 (show own_Mi Z "[Ljava/lang/Object;" MO from mO) (show own_Mi Z "java/util/ArrayDeque" MA from mA) (show own_Mi Z "java/util/ArrayList" ML from mL) (show A0 ≠ D0 from nAD) (show A0 ≠ E0 from nAE) (show D0 ≠ E0 from nDE) g_A0 g_D0 g_E0) hZ (hw _ (List.mem_of_getElem? (i := 99) rfl)) (hw _ (List.mem_of_getElem? (i := 2) rfl)) (by decide) (by decide)) q139a q139c (g := (mkF m 56 #[.val (.ref A0), .val (.int P1), .val (.int (Int32.ofNat CN)), .val (.int P3)] [(.ref A0)])) rfl (by rw [hml]; rfl) (Steps.refl _) (argsL := []) (rest := []) (lenOf pd_6_3 rfl) rfl (by show 2 * 0 + _ ≤ _; exact Nat.le_of_eq rfl) (hb hby d6_56) (fun _ _ => ⟨rfl, e0, (by decide : 0 + 3 ≤ _), (by decide : 0 + 11 ≤ _)⟩)
        dsimp only [Pt.U, Pt.locs, Pt.cells, Pt.slots] at X139 l139 y139 z139 st139 hQ139
        subst l139 y139 z139
        obtain ⟨x139_R0, x139_FG, rfl, N139q, K139, p139_0, p139_1, p139_2, p139_3, p139_4, p139_5, p139_6, p139_7, p139_8⟩ := hQ139
        have N139 := Fr.app N0 N139q
        have Z140 : n0 ≤ T139.heap.size := Nat.le_trans Z0 K139.1
        have K_140 : Keep h0 T139.heap [A0, D0, E0] := K_0.trans K139 (allS (Or.inl (List.mem_of_getElem? (i := 0) rfl)) (allS (Or.inl (List.mem_of_getElem? (i := 1) rfl)) (allS (Or.inl (List.mem_of_getElem? (i := 2) rfl)) all0)))
        have ss139_0 : Sta Z T139.heap "java/lang/Integer$IntegerCache" "cache" "[Ljava/lang/Integer;" (.ref U0) := own_sta_keep pm10 K139 (allS (own_ns pm0) (allS (own_ns pm3) (allS (own_nsE pm7) all0)))
        have ss139_1 : Sta Z T139.heap "java/lang/Integer$IntegerCache" "high" "I" (.int (127 : Int32)) := own_sta_keep pm11 K139 (allS (own_ns pm0) (allS (own_ns pm3) (allS (own_nsE pm7) all0)))
        have ss139_2 : Sta Z T139.heap "java/util/ArrayList" "EMPTY_ELEMENTDATA" "[Ljava/lang/Object;" (.ref U1) := own_sta_keep pm13 K139 (allS (own_ns pm0) (allS (own_ns pm3) (allS (own_nsE pm7) all0)))
        have pre141 : ∀ t, Steps p.tables e below (T139.setTop (mkF m 61 #[.val (.ref A0), .val (.int P1), .val (.int (Int32.ofNat CN)), .val (.int P3)] [(.int (0 : Int32))])) t → Steps p.tables e below (s₁.setTop (entryFrame m #[(.ref A0), (.int P1), (.int (Int32.ofNat CN)), (.int P3)] 4)) t := fun t kt => pre129 t (by
            show Steps p.tables e below (s₁.setTop (mkF m 35 #[.val (.ref A0), .val (.int P1), .val (.int (Int32.ofNat CN)), .val (.int P3)] [(.int (2 : Int32)), (.int P1)])) _
            refine XS.icmpYes X0.here hx rfl (pc0 := 35) (pc' := 55) rfl (hb hby d6_35) rfl (feq hc35).2 (by decide) (by decide) ?_
            show Steps p.tables e below (s₁.setTop (mkF m 55 #[.val (.ref A0), .val (.int P1), .val (.int (Int32.ofNat CN)), .val (.int P3)] [])) _
            refine XS.aloadN X0.here hx rfl (hb hby d6_55) rfl rfl ?_
            show Steps p.tables e below (s₁.setTop (mkF m 56 #[.val (.ref A0), .val (.int P1), .val (.int (Int32.ofNat CN)), .val (.int P3)] [(.ref A0)])) _
            refine st139.trans ?_
            show Steps p.tables e below (T139.setTop (mkF m 59 #[.val (.ref A0), .val (.int P1), .val (.int (Int32.ofNat CN)), .val (.int P3)] [(.ref x139_R0)])) _
            refine XS.pop X139.here hx rfl (hb hby d6_59) rfl rfl ?_
            show Steps p.tables e below (T139.setTop (mkF m 60 #[.val (.ref A0), .val (.int P1), .val (.int (Int32.ofNat CN)), .val (.int P3)] [])) _
            refine XS.iconst X139.here hx rfl (hb hby d6_60) ?_
            exact kt)
        obtain ⟨fs, hr, hrun, hended, hW, hsame⟩ := X139.leave (v := some (.int (0 : Int32))) (fun h => by rw [Bd.returns] at h; cases h)
        refine ⟨_, _, pre141 _ ?_, hrun, hended, _, _, rfl, ?_, ⟨_, rfl⟩, hW, hsame.mono (by decide) (by decide)⟩
        · show Steps p.tables e below (T139.setTop (mkF m 61 #[.val (.ref A0), .val (.int P1), .val (.int (Int32.ofNat CN)), .val (.int P3)] [(.int (0 : Int32))])) _
          exact retI X139 hx Bd.returns (hb hby d6_61) hr
        · show Q6 Z A0 P1 P3 D0 E0 FF HD CN U0 MO MA ML U1 h0 n0 _ T139.heap _
          exact ⟨x139_FG, 0, 0, (congrArg (fun z => some (Value.int z)) (show (0 : Int32) = Int32.ofNat 0 from rfl)), N139, K_140, p139_0, p139_1, p139_2, p139_3, p139_4, p139_5, p139_6, p139_7, p139_8, (by omega)⟩
theorem pn_0 : plainName "com/example/brigid/brigid/core/WaitingLineIsEmptyPinLaw" = true := by first | (simp [plainName, overriddenIn]; done) | decide +kernel
theorem pd_0_0 : parseMethodDescriptor "()V" = some ⟨[], none⟩ := by decide +kernel
theorem pd_0_1 : parseMethodDescriptor "()Z" = some ⟨[], some .boolean⟩ := by decide +kernel
theorem pd_0_2 : parseMethodDescriptor "(Lcom/example/brigid/brigid/core/WaitingLine;III)I" = some ⟨[(.object "com/example/brigid/brigid/core/WaitingLine"), .int, .int, .int], some .int⟩ := by decide +kernel
theorem ef_0 (m : MethodId) (P0 : Int32) (P1 : Int32) : entryFrame m #[(.int P0), (.int P1)] maxLocals = mkF m 0 #[.val (.int P0), .val (.int P1), .unset, .unset, .unset] [] := by first | (simp [entryFrame, mkF, argsToLocals, Value.category, maxLocals]; done) | rfl
def Q0 (Z : State) (P0 : Int32) (P1 : Int32) (U0 : Addr) (MO : Addr) (MA : Addr) (ML : Addr) (U1 : Addr) (h0 : Heap) (n0 : Nat) (v : Option Value) (h : Heap) (L : List Loc) : Prop := v = some (.int (1 : Int32)) ∧ Fr n0 L
set_option maxRecDepth 65536 in
set_option maxHeartbeats 40000000 in
theorem rm0 (l : Launch) (Z : State) (a0 : Array Value) (hw : ∀ d ∈ tables_1, d.before a0 Z = true) (ws : List Jvm.Cond) (P0 : Int32) (P1 : Int32) (U0 : Addr) (MO : Addr) (MA : Addr) (ML : Addr) (U1 : Addr) (h0 : Heap) (n0 : Nat) (Z0 : n0 ≤ h0.size) (pm0 : Sta Z h0 "java/lang/Integer$IntegerCache" "cache" "[Ljava/lang/Integer;" (.ref U0)) (pm1 : Sta Z h0 "java/lang/Integer$IntegerCache" "high" "I" (.int (127 : Int32))) (pm2 : own_Cac Z h0 "java/lang/Integer" U0) (pm3 : Sta Z h0 "java/util/ArrayList" "EMPTY_ELEMENTDATA" "[Ljava/lang/Object;" (.ref U1)) (mO : own_Mi Z "[Ljava/lang/Object;" MO) (mA : own_Mi Z "java/util/ArrayDeque" MA) (mL : own_Mi Z "java/util/ArrayList" ML) :
    MetFree l x (head1 (Jvm.Cond.code x code maxLocals ret :: ws) room_1) (fun a U => a = #[(.int P0), (.int P1)] ∧ Z.Warmed39 U.vm ∧ U.heap = h0) (fun _ _ _ _ _ => True) (fun _ U o U' => ∃ v L, o = .returned v ∧ Q0 Z P0 P1 U0 MO MA ML U1 h0 n0 v U'.heap L ∧ FrameEnd U o U' L 32 192) := by
  refine MetFree.of_bodySF (plainFor_of_name pn_0) hisR ?_
  intro p e s m args below meth c s₁ Bd hml0 hP hK
  obtain ⟨rfl, hZ, hh⟩ := hP
  have hx := Bd.exec
  have hby := Bd.bytes
  have hml : c.maxLocals = 5 := hml0
  have hown : s.vm.findClass "com/example/brigid/brigid/core/WaitingLineIsEmptyPinLaw" = some m.cls := findClass_of_methodNamed Bd.named
  have hnm := (name_of_methodNamed Bd.named Bd.method).1
  have X0 : Stand p l e room_1 s m #[(.int P0), (.int P1)] below meth c s₁ [] 0 0 := Stand.of_body Bd
  have e0 : s₁.heap = h0 := by rw [← hh, Bd.state]; rfl
  have N0 := Fr.nil n0
  have pre0 : ∀ t, Steps p.tables e below (s₁.setTop (mkF m 0 #[.val (.int P0), .val (.int P1), .unset, .unset, .unset] [])) t → Steps p.tables e below (s₁.setTop (entryFrame m #[(.int P0), (.int P1)] maxLocals)) t := fun t k => castTop (ef_0 m P0 P1) k
  obtain ⟨T101, h101, X101, e101, E101, A101, D101, -, st101⟩ := newO X0 hx hZ hown (hw _ (List.mem_of_getElem? (i := 0) rfl)) (hw _ (List.mem_of_getElem? (i := 1) rfl)) (hw _ (List.mem_of_getElem? (i := 2) rfl)) e0 (g := (mkF m 0 #[.val (.int P0), .val (.int P1), .unset, .unset, .unset] [])) rfl (hb hby at_0) (by decide) (by decide)
  obtain ⟨b101, q101⟩ : ∃ z, z = h0.size := ⟨_, rfl⟩
  rw [← q101] at A101 D101 st101
  have ne102 : U0 ≠ b101 := Nat.ne_of_lt (Nat.lt_of_lt_of_le pm2.lt (Nat.le_of_eq q101.symm))
  have g_b101 : n0 ≤ b101 := Nat.le_trans Z0 (Nat.le_of_eq q101.symm)
  have Z103 : n0 ≤ h101.size := Nat.le_trans Z0 E101.1
  have F101_27 : Fld Z h101 b101 "com/example/brigid/brigid/core/WaitingLine" "line" "Ljava/util/Deque;" .null := D101 (Or.inr (hw _ (List.mem_of_getElem? (i := 27) rfl))) (ty := (.object "java/util/Deque")) (by decide)
  have F101_34 : Fld Z h101 b101 "com/example/brigid/brigid/core/WaitingLine" "size" "I" (.int (0 : Int32)) := D101 (Or.inl (hw _ (List.mem_of_getElem? (i := 34) rfl))) (ty := .int) (by decide)
  have c104 : Sta Z h101 "java/lang/Integer$IntegerCache" "cache" "[Ljava/lang/Integer;" (.ref U0) := (pm0.ext E101)
  have c105 : Sta Z h101 "java/lang/Integer$IntegerCache" "high" "I" (.int (127 : Int32)) := (pm1.ext E101)
  have c106 : Sta Z h101 "java/util/ArrayList" "EMPTY_ELEMENTDATA" "[Ljava/lang/Object;" (.ref U1) := (pm3.ext E101)
  obtain ⟨_, _, ⟨T107, L107, k107, n107⟩, -, X107, ⟨Lc107, hQ107, l107, y107, z107⟩, st107⟩ := X101.specialBack hx (y := (⟨"com/example/brigid/brigid/core/WaitingLine", "<init>", "()V"⟩ : MethodName)) rfl hown (mvT hZ (hw _ (List.mem_of_getElem? (i := 3) rfl))) (mvT hZ (hw _ (List.mem_of_getElem? (i := 4) rfl))) (mvT hZ (hw _ (List.mem_of_getElem? (i := 5) rfl))) (by decide) (backOf (W := 1) (rm1 l Z a0 hw [] b101 h101 n0 Z103 A101 F101_27 F101_34 g_b101) hZ (hw _ (List.mem_of_getElem? (i := 5) rfl)) (hw _ (List.mem_of_getElem? (i := 2) rfl)) (by decide) (by decide)) (g := (mkF m 4 #[.val (.int P0), .val (.int P1), .unset, .unset, .unset] [(.ref b101), (.ref b101)])) rfl (by rw [hml]; rfl) (Steps.refl _) (a := b101) (argsL := []) (rest := [(.ref b101)]) (lenOf pd_0_0 rfl) rfl (by show 2 * 0 + _ ≤ _; exact Nat.le_of_eq rfl) (hb hby at_4) (fun _ _ => ⟨rfl, e101, (by decide : 1 + 2 ≤ _), (by decide : 2 + 20 ≤ _)⟩)
  dsimp only [Pt.U, Pt.locs, Pt.cells, Pt.slots] at X107 l107 y107 z107 st107 hQ107
  subst l107 y107 z107
  obtain ⟨x107_D0, x107_E0, rfl, N107q, K107, lb107_0, lb107_1, p107_0, p107_1, p107_2, p107_3, p107_4, p107_5, p107_6, p107_7, p107_8, p107_9⟩ := hQ107
  have N107 := Fr.app N0 N107q
  have c109 : own_Cac Z h101 "java/lang/Integer" U0 := (pm2.ext E101)
  have ne108 : U0 ≠ x107_D0 := Nat.ne_of_lt (Nat.lt_of_lt_of_le c109.lt lb107_0)
  have ne110 : b101 ≠ x107_D0 := Nat.ne_of_lt (Nat.lt_of_lt_of_le A101.lt lb107_0)
  have g_x107_D0 : n0 ≤ x107_D0 := Nat.le_trans Z103 lb107_0
  have ne111 : U0 ≠ x107_E0 := Nat.ne_of_lt (Nat.lt_of_lt_of_le c109.lt lb107_1)
  have ne112 : b101 ≠ x107_E0 := Nat.ne_of_lt (Nat.lt_of_lt_of_le A101.lt lb107_1)
  have g_x107_E0 : n0 ≤ x107_E0 := Nat.le_trans Z103 lb107_1
  have Z113 : n0 ≤ T107.heap.size := Nat.le_trans Z103 K107.1
  have ss107_0 : Sta Z T107.heap "java/lang/Integer$IntegerCache" "cache" "[Ljava/lang/Integer;" (.ref U0) := own_sta_keep c104 K107 (allS (own_ns A101) all0)
  have ss107_1 : Sta Z T107.heap "java/lang/Integer$IntegerCache" "high" "I" (.int (127 : Int32)) := own_sta_keep c105 K107 (allS (own_ns A101) all0)
  have ss107_2 : Sta Z T107.heap "java/util/ArrayList" "EMPTY_ELEMENTDATA" "[Ljava/lang/Object;" (.ref U1) := own_sta_keep c106 K107 (allS (own_ns A101) all0)
  obtain ⟨cq114, kq114, q114a, q114b, q114c⟩ := isOf hZ rfl p107_0
  obtain ⟨_, _, ⟨T114, L114, k114, n114⟩, -, X114, ⟨Lc114, hQ114, l114, y114, z114⟩, st114⟩ := X107.virtualBack hx (y := (⟨"com/example/brigid/brigid/core/WaitingLine", "isEmpty", "()Z"⟩ : MethodName)) (z := (⟨"com/example/brigid/brigid/core/WaitingLine", "isEmpty", "()Z"⟩ : MethodName)) hown (mvT hZ (hw _ (List.mem_of_getElem? (i := 28) rfl))) (mvT hZ (hw _ (List.mem_of_getElem? (i := 29) rfl))) (notFace_of_selects (args := #[]) (mvT hZ (hw _ (List.mem_of_getElem? (i := 31) rfl)))) (mvT hZ (hw _ (List.mem_of_getElem? (i := 31) rfl))) (mvT hZ (hw _ (List.mem_of_getElem? (i := 30) rfl))) (by decide) (backOf (W := 0) (rm5 l Z a0 hw [] b101 (Int32.ofNat 0) T107.heap n0 Z113 p107_0 p107_2) hZ (hw _ (List.mem_of_getElem? (i := 32) rfl)) (hw _ (List.mem_of_getElem? (i := 2) rfl)) (by decide) (by decide)) q114a q114c (g := (mkF m 9 #[.val (.int P0), .val (.int P1), .val (.ref b101), .unset, .unset] [(.ref b101)])) rfl (by rw [hml]; rfl) (Steps.refl _) (argsL := []) (rest := []) (lenOf pd_0_1 rfl) rfl (by show 2 * 0 + _ ≤ _; exact Nat.le_of_eq rfl) (hb hby at_9) (fun _ _ => ⟨rfl, rfl, (by decide : 3 + 0 ≤ _), (by decide : 22 + 0 ≤ _)⟩)
  dsimp only [Pt.U, Pt.locs, Pt.cells, Pt.slots] at X114 l114 y114 z114 st114 hQ114
  subst l114 y114 z114
  obtain ⟨rfl, N114q, K114⟩ := hQ114
  have N114 := Fr.app N107 N114q
  have pre115 : ∀ t, Steps p.tables e below (T114.setTop (mkF m 16 #[.val (.int P0), .val (.int P1), .val (.ref b101), .val (.int (own_emp (Int32.ofNat 0))), .val (.int (0 : Int32))] [])) t → Steps p.tables e below (s₁.setTop (entryFrame m #[(.int P0), (.int P1)] maxLocals)) t := fun t kt => pre0 t (by
      show Steps p.tables e below (s₁.setTop (mkF m 0 #[.val (.int P0), .val (.int P1), .unset, .unset, .unset] [])) _
      refine st101 _ ?_
      show Steps p.tables e below (T101.setTop (mkF m 3 #[.val (.int P0), .val (.int P1), .unset, .unset, .unset] [(.ref b101)])) _
      refine XS.dup X101.here hx rfl (hb hby at_3) rfl rfl ?_
      show Steps p.tables e below (T101.setTop (mkF m 4 #[.val (.int P0), .val (.int P1), .unset, .unset, .unset] [(.ref b101), (.ref b101)])) _
      refine st107.trans ?_
      show Steps p.tables e below (T107.setTop (mkF m 7 #[.val (.int P0), .val (.int P1), .unset, .unset, .unset] [(.ref b101)])) _
      refine XS.astoreN X107.here hx rfl (hb hby at_7) rfl rfl (l' := #[.val (.int P0), .val (.int P1), .val (.ref b101), .unset, .unset]) rfl ?_
      show Steps p.tables e below (T107.setTop (mkF m 8 #[.val (.int P0), .val (.int P1), .val (.ref b101), .unset, .unset] [])) _
      refine XS.aloadN X107.here hx rfl (hb hby at_8) rfl rfl ?_
      show Steps p.tables e below (T107.setTop (mkF m 9 #[.val (.int P0), .val (.int P1), .val (.ref b101), .unset, .unset] [(.ref b101)])) _
      refine st114.trans ?_
      show Steps p.tables e below (T114.setTop (mkF m 12 #[.val (.int P0), .val (.int P1), .val (.ref b101), .unset, .unset] [(.int (own_emp (Int32.ofNat 0)))])) _
      refine XS.istoreN X114.here hx rfl (hb hby at_12) rfl (l' := #[.val (.int P0), .val (.int P1), .val (.ref b101), .val (.int (own_emp (Int32.ofNat 0))), .unset]) rfl ?_
      show Steps p.tables e below (T114.setTop (mkF m 13 #[.val (.int P0), .val (.int P1), .val (.ref b101), .val (.int (own_emp (Int32.ofNat 0))), .unset] [])) _
      refine XS.iconst X114.here hx rfl (hb hby at_13) ?_
      show Steps p.tables e below (T114.setTop (mkF m 14 #[.val (.int P0), .val (.int P1), .val (.ref b101), .val (.int (own_emp (Int32.ofNat 0))), .unset] [(.int (0 : Int32))])) _
      refine XS.istore X114.here hx rfl (hb hby at_14) rfl (l' := #[.val (.int P0), .val (.int P1), .val (.ref b101), .val (.int (own_emp (Int32.ofNat 0))), .val (.int (0 : Int32))]) rfl ?_
      exact kt)
  have pre116 : ∀ t, Steps p.tables e below (T114.setTop (mkF m 16 #[.val (.int P0), .val (.int P1), .val (.ref b101), .val (.int (own_emp (Int32.ofNat 0))), .val (.int (Int32.ofNat 0))] [])) t → Steps p.tables e below (s₁.setTop (entryFrame m #[(.int P0), (.int P1)] maxLocals)) t := fun t kt => pre115 t (Eq.mpr (congrArg (fun zz_ => Steps p.tables e below (T114.setTop (mkF m 16 #[.val (.int P0), .val (.int P1), .val (.ref b101), .val (.int (own_emp (Int32.ofNat 0))), .val (.int zz_)] [])) t) (show (0 : Int32) = (Int32.ofNat 0) from rfl)) kt)
  have c117 : own_Cac Z T107.heap "java/lang/Integer" U0 := (c109.keep K107 (ninS ne102 nin0))
  obtain ⟨_, _, ⟨T118, L118, k118, n118⟩, -, X118, ⟨Lc118, hQ118, l118, y118, z118⟩, st118⟩ := Jvm.LawKit.callS X114 hx (y := (⟨"com/example/brigid/brigid/core/WaitingLineIsEmptyPinLaw", "step", "(Lcom/example/brigid/brigid/core/WaitingLine;III)I"⟩ : MethodName)) hown (mvT hZ (hw _ (List.mem_of_getElem? (i := 35) rfl))) (mvT hZ (hw _ (List.mem_of_getElem? (i := 36) rfl))) (mvT hZ (hw _ (List.mem_of_getElem? (i := 37) rfl))) (mvT hZ (hw _ (List.mem_of_getElem? (i := 38) rfl))) (by decide) (backOf (W := 0) (rm6 l Z a0 hw [] b101 (P0 &&& (3 : Int32)) P1 x107_D0 x107_E0 (fun _ => Value.null) 0 0 U0 MO MA ML U1 T107.heap n0 Z113 p107_0 p107_1 p107_2 p107_3 p107_4 p107_5 p107_6 p107_7 (show own_Dq (fun _ => Value.null) 0 0 from p107_8) (show 0 + 1 ≤ 4 from (by omega)) ss107_0 ss107_1 c117 ss107_2 (show own_Mi Z "[Ljava/lang/Object;" MO from mO) (show own_Mi Z "java/util/ArrayDeque" MA from mA) (show own_Mi Z "java/util/ArrayList" ML from mL) (show b101 ≠ x107_D0 from ne110) (show b101 ≠ x107_E0 from ne112) (show x107_D0 ≠ x107_E0 from p107_9) g_b101 g_x107_D0 g_x107_E0) hZ (hw _ (List.mem_of_getElem? (i := 38) rfl)) (hw _ (List.mem_of_getElem? (i := 37) rfl)) (by decide) (by decide)) (g := (mkF m 23 #[.val (.int P0), .val (.int P1), .val (.ref b101), .val (.int (own_emp (Int32.ofNat 0))), .val (.int (Int32.ofNat 0))] [(.int P1), (.int (Int32.ofNat 0)), (.int (P0 &&& (3 : Int32))), (.ref b101)])) rfl (by rw [hml]; rfl) (argsL := [(.ref b101), (.int (P0 &&& (3 : Int32))), (.int (Int32.ofNat 0)), (.int P1)]) (rest := []) (lenOf pd_0_2 rfl) rfl (by show 2 * 0 + _ ≤ _; exact Nat.le_of_eq rfl) (hb hby at_23) (fun _ _ => ⟨rfl, K114, (by decide : 3 + 3 ≤ _), (by decide : 22 + 11 ≤ _)⟩)
  dsimp only [Pt.U, Pt.locs, Pt.cells, Pt.slots] at X118 l118 y118 z118 st118 hQ118
  subst l118 y118 z118
  obtain ⟨x118_FG, x118_HG, x118_CG, rfl, N118q, K118, p118_0, p118_1, p118_2, p118_3, p118_4, p118_5, p118_6, p118_7, p118_8, p118_9⟩ := hQ118
  have N118 := Fr.app N114 N118q
  have Z119 : n0 ≤ T118.heap.size := Nat.le_trans Z113 K118.1
  have ss118_0 : Sta Z T118.heap "java/lang/Integer$IntegerCache" "cache" "[Ljava/lang/Integer;" (.ref U0) := own_sta_keep ss107_0 K118 (allS (own_ns p107_0) (allS (own_ns p107_3) (allS (own_nsE p107_7) all0)))
  have ss118_1 : Sta Z T118.heap "java/lang/Integer$IntegerCache" "high" "I" (.int (127 : Int32)) := own_sta_keep ss107_1 K118 (allS (own_ns p107_0) (allS (own_ns p107_3) (allS (own_nsE p107_7) all0)))
  have ss118_2 : Sta Z T118.heap "java/util/ArrayList" "EMPTY_ELEMENTDATA" "[Ljava/lang/Object;" (.ref U1) := own_sta_keep ss107_2 K118 (allS (own_ns p107_0) (allS (own_ns p107_3) (allS (own_nsE p107_7) all0)))
  obtain ⟨cq120, kq120, q120a, q120b, q120c⟩ := isOf hZ rfl p118_0
  obtain ⟨_, _, ⟨T120, L120, k120, n120⟩, -, X120, ⟨Lc120, hQ120, l120, y120, z120⟩, st120⟩ := X118.virtualBack hx (y := (⟨"com/example/brigid/brigid/core/WaitingLine", "isEmpty", "()Z"⟩ : MethodName)) (z := (⟨"com/example/brigid/brigid/core/WaitingLine", "isEmpty", "()Z"⟩ : MethodName)) hown (mvT hZ (hw _ (List.mem_of_getElem? (i := 28) rfl))) (mvT hZ (hw _ (List.mem_of_getElem? (i := 29) rfl))) (notFace_of_selects (args := #[]) (mvT hZ (hw _ (List.mem_of_getElem? (i := 31) rfl)))) (mvT hZ (hw _ (List.mem_of_getElem? (i := 31) rfl))) (mvT hZ (hw _ (List.mem_of_getElem? (i := 30) rfl))) (by decide) (backOf (W := 1) (rm5 l Z a0 hw [] b101 (Int32.ofNat x118_CG) T118.heap n0 Z119 p118_0 p118_2) hZ (hw _ (List.mem_of_getElem? (i := 32) rfl)) (hw _ (List.mem_of_getElem? (i := 2) rfl)) (by decide) (by decide)) q120a q120c (g := (mkF m 30 #[.val (.int P0), .val (.int P1), .val (.ref b101), .val (.int (own_emp (Int32.ofNat 0))), .val (.int (Int32.ofNat x118_CG))] [(.ref b101), (.int (own_emp (Int32.ofNat 0)))])) rfl (by rw [hml]; rfl) (Steps.refl _) (argsL := []) (rest := [(.int (own_emp (Int32.ofNat 0)))]) (lenOf pd_0_1 rfl) rfl (by show 2 * 0 + _ ≤ _; exact Nat.le_of_eq rfl) (hb hby at_30) (fun _ _ => ⟨rfl, rfl, (by decide : 6 + 0 ≤ _), (by decide : 33 + 0 ≤ _)⟩)
  dsimp only [Pt.U, Pt.locs, Pt.cells, Pt.slots] at X120 l120 y120 z120 st120 hQ120
  subst l120 y120 z120
  obtain ⟨rfl, N120q, K120⟩ := hQ120
  have N120 := Fr.app N118 N120q
  have pre121 : ∀ t, Steps p.tables e below (T120.setTop (mkF m 43 #[.val (.int P0), .val (.int P1), .val (.ref b101), .val (.int (own_emp (Int32.ofNat 0))), .val (.int (Int32.ofNat x118_CG))] [(.int (if (Int32.ofNat x118_CG) = (0 : Int32) then (1 : Int32) else (0 : Int32))), (.int (own_emp (Int32.ofNat x118_CG))), (.int (own_emp (Int32.ofNat 0)))])) t → Steps p.tables e below (s₁.setTop (entryFrame m #[(.int P0), (.int P1)] maxLocals)) t := fun t kt => pre116 t (by
      show Steps p.tables e below (T114.setTop (mkF m 16 #[.val (.int P0), .val (.int P1), .val (.ref b101), .val (.int (own_emp (Int32.ofNat 0))), .val (.int (Int32.ofNat 0))] [])) _
      refine XS.aloadN X114.here hx rfl (hb hby at_16) rfl rfl ?_
      show Steps p.tables e below (T114.setTop (mkF m 17 #[.val (.int P0), .val (.int P1), .val (.ref b101), .val (.int (own_emp (Int32.ofNat 0))), .val (.int (Int32.ofNat 0))] [(.ref b101)])) _
      refine XS.iloadN X114.here hx rfl (hb hby at_17) rfl ?_
      show Steps p.tables e below (T114.setTop (mkF m 18 #[.val (.int P0), .val (.int P1), .val (.ref b101), .val (.int (own_emp (Int32.ofNat 0))), .val (.int (Int32.ofNat 0))] [(.int P0), (.ref b101)])) _
      refine XS.iconst X114.here hx rfl (hb hby at_18) ?_
      show Steps p.tables e below (T114.setTop (mkF m 19 #[.val (.int P0), .val (.int P1), .val (.ref b101), .val (.int (own_emp (Int32.ofNat 0))), .val (.int (Int32.ofNat 0))] [(.int (3 : Int32)), (.int P0), (.ref b101)])) _
      refine XS.iand X114.here hx rfl (hb hby at_19) rfl ?_
      show Steps p.tables e below (T114.setTop (mkF m 20 #[.val (.int P0), .val (.int P1), .val (.ref b101), .val (.int (own_emp (Int32.ofNat 0))), .val (.int (Int32.ofNat 0))] [(.int (P0 &&& (3 : Int32))), (.ref b101)])) _
      refine XS.iload X114.here hx rfl (hb hby at_20) rfl ?_
      show Steps p.tables e below (T114.setTop (mkF m 22 #[.val (.int P0), .val (.int P1), .val (.ref b101), .val (.int (own_emp (Int32.ofNat 0))), .val (.int (Int32.ofNat 0))] [(.int (Int32.ofNat 0)), (.int (P0 &&& (3 : Int32))), (.ref b101)])) _
      refine XS.iloadN X114.here hx rfl (hb hby at_22) rfl ?_
      show Steps p.tables e below (T114.setTop (mkF m 23 #[.val (.int P0), .val (.int P1), .val (.ref b101), .val (.int (own_emp (Int32.ofNat 0))), .val (.int (Int32.ofNat 0))] [(.int P1), (.int (Int32.ofNat 0)), (.int (P0 &&& (3 : Int32))), (.ref b101)])) _
      refine st118 _ ?_
      show Steps p.tables e below (T118.setTop (mkF m 26 #[.val (.int P0), .val (.int P1), .val (.ref b101), .val (.int (own_emp (Int32.ofNat 0))), .val (.int (Int32.ofNat 0))] [(.int (Int32.ofNat x118_CG))])) _
      refine XS.istore X118.here hx rfl (hb hby at_26) rfl (l' := #[.val (.int P0), .val (.int P1), .val (.ref b101), .val (.int (own_emp (Int32.ofNat 0))), .val (.int (Int32.ofNat x118_CG))]) rfl ?_
      show Steps p.tables e below (T118.setTop (mkF m 28 #[.val (.int P0), .val (.int P1), .val (.ref b101), .val (.int (own_emp (Int32.ofNat 0))), .val (.int (Int32.ofNat x118_CG))] [])) _
      refine XS.iloadN X118.here hx rfl (hb hby at_28) rfl ?_
      show Steps p.tables e below (T118.setTop (mkF m 29 #[.val (.int P0), .val (.int P1), .val (.ref b101), .val (.int (own_emp (Int32.ofNat 0))), .val (.int (Int32.ofNat x118_CG))] [(.int (own_emp (Int32.ofNat 0)))])) _
      refine XS.aloadN X118.here hx rfl (hb hby at_29) rfl rfl ?_
      show Steps p.tables e below (T118.setTop (mkF m 30 #[.val (.int P0), .val (.int P1), .val (.ref b101), .val (.int (own_emp (Int32.ofNat 0))), .val (.int (Int32.ofNat x118_CG))] [(.ref b101), (.int (own_emp (Int32.ofNat 0)))])) _
      refine st120.trans ?_
      show Steps p.tables e below (T120.setTop (mkF m 33 #[.val (.int P0), .val (.int P1), .val (.ref b101), .val (.int (own_emp (Int32.ofNat 0))), .val (.int (Int32.ofNat x118_CG))] [(.int (own_emp (Int32.ofNat x118_CG))), (.int (own_emp (Int32.ofNat 0)))])) _
      refine XS.iload X120.here hx rfl (hb hby at_33) rfl ?_
      show Steps p.tables e below (T120.setTop (mkF m 35 #[.val (.int P0), .val (.int P1), .val (.ref b101), .val (.int (own_emp (Int32.ofNat 0))), .val (.int (Int32.ofNat x118_CG))] [(.int (Int32.ofNat x118_CG)), (.int (own_emp (Int32.ofNat x118_CG))), (.int (own_emp (Int32.ofNat 0)))])) _
      by_cases hm35 : (Int32.ofNat x118_CG) = (0 : Int32)
      · refine XS.ifNo X120.here hx rfl (hb hby at_35) rfl ((if0 _ _).trans (teq hm35).2) ?_
        show Steps p.tables e below (T120.setTop (mkF m 38 #[.val (.int P0), .val (.int P1), .val (.ref b101), .val (.int (own_emp (Int32.ofNat 0))), .val (.int (Int32.ofNat x118_CG))] [(.int (own_emp (Int32.ofNat x118_CG))), (.int (own_emp (Int32.ofNat 0)))])) _
        refine XS.iconst X120.here hx rfl (hb hby at_38) ?_
        show Steps p.tables e below (T120.setTop (mkF m 39 #[.val (.int P0), .val (.int P1), .val (.ref b101), .val (.int (own_emp (Int32.ofNat 0))), .val (.int (Int32.ofNat x118_CG))] [(.int (1 : Int32)), (.int (own_emp (Int32.ofNat x118_CG))), (.int (own_emp (Int32.ofNat 0)))])) _
        refine XS.goto X120.here hx rfl (pc0 := 39) (pc' := 43) rfl (hb hby at_39) (by decide) (by decide) ?_
        rw [show (if (Int32.ofNat x118_CG) = (0 : Int32) then (1 : Int32) else (0 : Int32)) = (1 : Int32) from by first | exact if_pos hm35 | exact if_neg hm35 | exact if_neg (fun q => q hm35) | simp [hm35]] at kt
        exact kt
      · refine XS.ifYes X120.here hx rfl (pc0 := 35) (pc' := 42) rfl (hb hby at_35) rfl ((if0 _ _).trans (feq hm35).2) (by decide) (by decide) ?_
        show Steps p.tables e below (T120.setTop (mkF m 42 #[.val (.int P0), .val (.int P1), .val (.ref b101), .val (.int (own_emp (Int32.ofNat 0))), .val (.int (Int32.ofNat x118_CG))] [(.int (own_emp (Int32.ofNat x118_CG))), (.int (own_emp (Int32.ofNat 0)))])) _
        refine XS.iconst X120.here hx rfl (hb hby at_42) ?_
        rw [show (if (Int32.ofNat x118_CG) = (0 : Int32) then (1 : Int32) else (0 : Int32)) = (0 : Int32) from by first | exact if_pos hm35 | exact if_neg hm35 | exact if_neg (fun q => q hm35) | simp [hm35]] at kt
        exact kt)
  have c122 : own_Cac Z T118.heap "java/lang/Integer" U0 := (c117.keep K118 (ninS ne102 (ninS ne108 (ninS ne111 nin0))))
  obtain ⟨_, _, ⟨T123, L123, k123, n123⟩, -, X123, ⟨Lc123, hQ123, l123, y123, z123⟩, st123⟩ := Jvm.LawKit.callS X120 hx (y := (⟨"com/example/brigid/brigid/core/WaitingLineIsEmptyPinLaw", "step", "(Lcom/example/brigid/brigid/core/WaitingLine;III)I"⟩ : MethodName)) hown (mvT hZ (hw _ (List.mem_of_getElem? (i := 35) rfl))) (mvT hZ (hw _ (List.mem_of_getElem? (i := 36) rfl))) (mvT hZ (hw _ (List.mem_of_getElem? (i := 37) rfl))) (mvT hZ (hw _ (List.mem_of_getElem? (i := 38) rfl))) (by decide) (backOf (W := 0) (rm6 l Z a0 hw [] b101 (((P0.toUInt32 >>> ((2 : Int32) &&& 31).toUInt32).toInt32) &&& (3 : Int32)) P1 x107_D0 x107_E0 x118_FG x118_HG x118_CG U0 MO MA ML U1 T118.heap n0 Z119 p118_0 p118_1 p118_2 p118_3 p118_4 p118_5 p118_6 p118_7 (show own_Dq x118_FG x118_HG x118_CG from p118_8) (show x118_CG + 1 ≤ 4 from (by omega)) ss118_0 ss118_1 c122 ss118_2 (show own_Mi Z "[Ljava/lang/Object;" MO from mO) (show own_Mi Z "java/util/ArrayDeque" MA from mA) (show own_Mi Z "java/util/ArrayList" ML from mL) (show b101 ≠ x107_D0 from ne110) (show b101 ≠ x107_E0 from ne112) (show x107_D0 ≠ x107_E0 from p107_9) g_b101 g_x107_D0 g_x107_E0) hZ (hw _ (List.mem_of_getElem? (i := 38) rfl)) (hw _ (List.mem_of_getElem? (i := 37) rfl)) (by decide) (by decide)) (g := (mkF m 62 #[.val (.int P0), .val (.int P1), .val (.ref b101), .val (.int ((own_emp (Int32.ofNat 0)) &&& (1 : Int32))), .val (.int (Int32.ofNat x118_CG))] [(.int P1), (.int (Int32.ofNat x118_CG)), (.int (((P0.toUInt32 >>> ((2 : Int32) &&& 31).toUInt32).toInt32) &&& (3 : Int32))), (.ref b101)])) rfl (by rw [hml]; rfl) (argsL := [(.ref b101), (.int (((P0.toUInt32 >>> ((2 : Int32) &&& 31).toUInt32).toInt32) &&& (3 : Int32))), (.int (Int32.ofNat x118_CG)), (.int P1)]) (rest := []) (lenOf pd_0_2 rfl) rfl (by show 2 * 0 + _ ≤ _; exact Nat.le_of_eq rfl) (hb hby at_62) (fun _ _ => ⟨rfl, K120, (by decide : 6 + 3 ≤ _), (by decide : 33 + 11 ≤ _)⟩)
  dsimp only [Pt.U, Pt.locs, Pt.cells, Pt.slots] at X123 l123 y123 z123 st123 hQ123
  subst l123 y123 z123
  obtain ⟨x123_FG, x123_HG, x123_CG, rfl, N123q, K123, p123_0, p123_1, p123_2, p123_3, p123_4, p123_5, p123_6, p123_7, p123_8, p123_9⟩ := hQ123
  have N123 := Fr.app N120 N123q
  have Z124 : n0 ≤ T123.heap.size := Nat.le_trans Z119 K123.1
  have ss123_0 : Sta Z T123.heap "java/lang/Integer$IntegerCache" "cache" "[Ljava/lang/Integer;" (.ref U0) := own_sta_keep ss118_0 K123 (allS (own_ns p118_0) (allS (own_ns p118_3) (allS (own_nsE p118_7) all0)))
  have ss123_1 : Sta Z T123.heap "java/lang/Integer$IntegerCache" "high" "I" (.int (127 : Int32)) := own_sta_keep ss118_1 K123 (allS (own_ns p118_0) (allS (own_ns p118_3) (allS (own_nsE p118_7) all0)))
  have ss123_2 : Sta Z T123.heap "java/util/ArrayList" "EMPTY_ELEMENTDATA" "[Ljava/lang/Object;" (.ref U1) := own_sta_keep ss118_2 K123 (allS (own_ns p118_0) (allS (own_ns p118_3) (allS (own_nsE p118_7) all0)))
  obtain ⟨cq125, kq125, q125a, q125b, q125c⟩ := isOf hZ rfl p123_0
  obtain ⟨_, _, ⟨T125, L125, k125, n125⟩, -, X125, ⟨Lc125, hQ125, l125, y125, z125⟩, st125⟩ := X123.virtualBack hx (y := (⟨"com/example/brigid/brigid/core/WaitingLine", "isEmpty", "()Z"⟩ : MethodName)) (z := (⟨"com/example/brigid/brigid/core/WaitingLine", "isEmpty", "()Z"⟩ : MethodName)) hown (mvT hZ (hw _ (List.mem_of_getElem? (i := 28) rfl))) (mvT hZ (hw _ (List.mem_of_getElem? (i := 29) rfl))) (notFace_of_selects (args := #[]) (mvT hZ (hw _ (List.mem_of_getElem? (i := 31) rfl)))) (mvT hZ (hw _ (List.mem_of_getElem? (i := 31) rfl))) (mvT hZ (hw _ (List.mem_of_getElem? (i := 30) rfl))) (by decide) (backOf (W := 1) (rm5 l Z a0 hw [] b101 (Int32.ofNat x123_CG) T123.heap n0 Z124 p123_0 p123_2) hZ (hw _ (List.mem_of_getElem? (i := 32) rfl)) (hw _ (List.mem_of_getElem? (i := 2) rfl)) (by decide) (by decide)) q125a q125c (g := (mkF m 69 #[.val (.int P0), .val (.int P1), .val (.ref b101), .val (.int ((own_emp (Int32.ofNat 0)) &&& (1 : Int32))), .val (.int (Int32.ofNat x123_CG))] [(.ref b101), (.int ((own_emp (Int32.ofNat 0)) &&& (1 : Int32)))])) rfl (by rw [hml]; rfl) (Steps.refl _) (argsL := []) (rest := [(.int ((own_emp (Int32.ofNat 0)) &&& (1 : Int32)))]) (lenOf pd_0_1 rfl) rfl (by show 2 * 0 + _ ≤ _; exact Nat.le_of_eq rfl) (hb hby at_69) (fun _ _ => ⟨rfl, rfl, (by decide : 9 + 0 ≤ _), (by decide : 44 + 0 ≤ _)⟩)
  dsimp only [Pt.U, Pt.locs, Pt.cells, Pt.slots] at X125 l125 y125 z125 st125 hQ125
  subst l125 y125 z125
  obtain ⟨rfl, N125q, K125⟩ := hQ125
  have N125 := Fr.app N123 N125q
  have pre126 : ∀ t, Steps p.tables e below (T125.setTop (mkF m 82 #[.val (.int P0), .val (.int P1), .val (.ref b101), .val (.int ((own_emp (Int32.ofNat 0)) &&& (1 : Int32))), .val (.int (Int32.ofNat x123_CG))] [(.int (if (Int32.ofNat x123_CG) = (0 : Int32) then (1 : Int32) else (0 : Int32))), (.int (own_emp (Int32.ofNat x123_CG))), (.int ((own_emp (Int32.ofNat 0)) &&& (1 : Int32)))])) t → Steps p.tables e below (s₁.setTop (entryFrame m #[(.int P0), (.int P1)] maxLocals)) t := fun t kt => pre121 t (by
      show Steps p.tables e below (T120.setTop (mkF m 43 #[.val (.int P0), .val (.int P1), .val (.ref b101), .val (.int (own_emp (Int32.ofNat 0))), .val (.int (Int32.ofNat x118_CG))] [(.int (if (Int32.ofNat x118_CG) = (0 : Int32) then (1 : Int32) else (0 : Int32))), (.int (own_emp (Int32.ofNat x118_CG))), (.int (own_emp (Int32.ofNat 0)))])) _
      refine XS.icmpNo X120.here hx rfl (hb hby at_43) rfl (teq (show (own_emp (Int32.ofNat x118_CG)) = (if (Int32.ofNat x118_CG) = (0 : Int32) then (1 : Int32) else (0 : Int32)) from rfl)).2 ?_
      show Steps p.tables e below (T120.setTop (mkF m 46 #[.val (.int P0), .val (.int P1), .val (.ref b101), .val (.int (own_emp (Int32.ofNat 0))), .val (.int (Int32.ofNat x118_CG))] [(.int (own_emp (Int32.ofNat 0)))])) _
      refine XS.iconst X120.here hx rfl (hb hby at_46) ?_
      show Steps p.tables e below (T120.setTop (mkF m 47 #[.val (.int P0), .val (.int P1), .val (.ref b101), .val (.int (own_emp (Int32.ofNat 0))), .val (.int (Int32.ofNat x118_CG))] [(.int (1 : Int32)), (.int (own_emp (Int32.ofNat 0)))])) _
      refine XS.goto X120.here hx rfl (pc0 := 47) (pc' := 51) rfl (hb hby at_47) (by decide) (by decide) ?_
      show Steps p.tables e below (T120.setTop (mkF m 51 #[.val (.int P0), .val (.int P1), .val (.ref b101), .val (.int (own_emp (Int32.ofNat 0))), .val (.int (Int32.ofNat x118_CG))] [(.int (1 : Int32)), (.int (own_emp (Int32.ofNat 0)))])) _
      refine XS.iand X120.here hx rfl (hb hby at_51) rfl ?_
      show Steps p.tables e below (T120.setTop (mkF m 52 #[.val (.int P0), .val (.int P1), .val (.ref b101), .val (.int (own_emp (Int32.ofNat 0))), .val (.int (Int32.ofNat x118_CG))] [(.int ((own_emp (Int32.ofNat 0)) &&& (1 : Int32)))])) _
      refine XS.istoreN X120.here hx rfl (hb hby at_52) rfl (l' := #[.val (.int P0), .val (.int P1), .val (.ref b101), .val (.int ((own_emp (Int32.ofNat 0)) &&& (1 : Int32))), .val (.int (Int32.ofNat x118_CG))]) rfl ?_
      show Steps p.tables e below (T120.setTop (mkF m 53 #[.val (.int P0), .val (.int P1), .val (.ref b101), .val (.int ((own_emp (Int32.ofNat 0)) &&& (1 : Int32))), .val (.int (Int32.ofNat x118_CG))] [])) _
      refine XS.aloadN X120.here hx rfl (hb hby at_53) rfl rfl ?_
      show Steps p.tables e below (T120.setTop (mkF m 54 #[.val (.int P0), .val (.int P1), .val (.ref b101), .val (.int ((own_emp (Int32.ofNat 0)) &&& (1 : Int32))), .val (.int (Int32.ofNat x118_CG))] [(.ref b101)])) _
      refine XS.iloadN X120.here hx rfl (hb hby at_54) rfl ?_
      show Steps p.tables e below (T120.setTop (mkF m 55 #[.val (.int P0), .val (.int P1), .val (.ref b101), .val (.int ((own_emp (Int32.ofNat 0)) &&& (1 : Int32))), .val (.int (Int32.ofNat x118_CG))] [(.int P0), (.ref b101)])) _
      refine XS.iconst X120.here hx rfl (hb hby at_55) ?_
      show Steps p.tables e below (T120.setTop (mkF m 56 #[.val (.int P0), .val (.int P1), .val (.ref b101), .val (.int ((own_emp (Int32.ofNat 0)) &&& (1 : Int32))), .val (.int (Int32.ofNat x118_CG))] [(.int (2 : Int32)), (.int P0), (.ref b101)])) _
      refine XS.iushr X120.here hx rfl (hb hby at_56) rfl ?_
      show Steps p.tables e below (T120.setTop (mkF m 57 #[.val (.int P0), .val (.int P1), .val (.ref b101), .val (.int ((own_emp (Int32.ofNat 0)) &&& (1 : Int32))), .val (.int (Int32.ofNat x118_CG))] [(.int ((P0.toUInt32 >>> ((2 : Int32) &&& 31).toUInt32).toInt32)), (.ref b101)])) _
      refine XS.iconst X120.here hx rfl (hb hby at_57) ?_
      show Steps p.tables e below (T120.setTop (mkF m 58 #[.val (.int P0), .val (.int P1), .val (.ref b101), .val (.int ((own_emp (Int32.ofNat 0)) &&& (1 : Int32))), .val (.int (Int32.ofNat x118_CG))] [(.int (3 : Int32)), (.int ((P0.toUInt32 >>> ((2 : Int32) &&& 31).toUInt32).toInt32)), (.ref b101)])) _
      refine XS.iand X120.here hx rfl (hb hby at_58) rfl ?_
      show Steps p.tables e below (T120.setTop (mkF m 59 #[.val (.int P0), .val (.int P1), .val (.ref b101), .val (.int ((own_emp (Int32.ofNat 0)) &&& (1 : Int32))), .val (.int (Int32.ofNat x118_CG))] [(.int (((P0.toUInt32 >>> ((2 : Int32) &&& 31).toUInt32).toInt32) &&& (3 : Int32))), (.ref b101)])) _
      refine XS.iload X120.here hx rfl (hb hby at_59) rfl ?_
      show Steps p.tables e below (T120.setTop (mkF m 61 #[.val (.int P0), .val (.int P1), .val (.ref b101), .val (.int ((own_emp (Int32.ofNat 0)) &&& (1 : Int32))), .val (.int (Int32.ofNat x118_CG))] [(.int (Int32.ofNat x118_CG)), (.int (((P0.toUInt32 >>> ((2 : Int32) &&& 31).toUInt32).toInt32) &&& (3 : Int32))), (.ref b101)])) _
      refine XS.iloadN X120.here hx rfl (hb hby at_61) rfl ?_
      show Steps p.tables e below (T120.setTop (mkF m 62 #[.val (.int P0), .val (.int P1), .val (.ref b101), .val (.int ((own_emp (Int32.ofNat 0)) &&& (1 : Int32))), .val (.int (Int32.ofNat x118_CG))] [(.int P1), (.int (Int32.ofNat x118_CG)), (.int (((P0.toUInt32 >>> ((2 : Int32) &&& 31).toUInt32).toInt32) &&& (3 : Int32))), (.ref b101)])) _
      refine st123 _ ?_
      show Steps p.tables e below (T123.setTop (mkF m 65 #[.val (.int P0), .val (.int P1), .val (.ref b101), .val (.int ((own_emp (Int32.ofNat 0)) &&& (1 : Int32))), .val (.int (Int32.ofNat x118_CG))] [(.int (Int32.ofNat x123_CG))])) _
      refine XS.istore X123.here hx rfl (hb hby at_65) rfl (l' := #[.val (.int P0), .val (.int P1), .val (.ref b101), .val (.int ((own_emp (Int32.ofNat 0)) &&& (1 : Int32))), .val (.int (Int32.ofNat x123_CG))]) rfl ?_
      show Steps p.tables e below (T123.setTop (mkF m 67 #[.val (.int P0), .val (.int P1), .val (.ref b101), .val (.int ((own_emp (Int32.ofNat 0)) &&& (1 : Int32))), .val (.int (Int32.ofNat x123_CG))] [])) _
      refine XS.iloadN X123.here hx rfl (hb hby at_67) rfl ?_
      show Steps p.tables e below (T123.setTop (mkF m 68 #[.val (.int P0), .val (.int P1), .val (.ref b101), .val (.int ((own_emp (Int32.ofNat 0)) &&& (1 : Int32))), .val (.int (Int32.ofNat x123_CG))] [(.int ((own_emp (Int32.ofNat 0)) &&& (1 : Int32)))])) _
      refine XS.aloadN X123.here hx rfl (hb hby at_68) rfl rfl ?_
      show Steps p.tables e below (T123.setTop (mkF m 69 #[.val (.int P0), .val (.int P1), .val (.ref b101), .val (.int ((own_emp (Int32.ofNat 0)) &&& (1 : Int32))), .val (.int (Int32.ofNat x123_CG))] [(.ref b101), (.int ((own_emp (Int32.ofNat 0)) &&& (1 : Int32)))])) _
      refine st125.trans ?_
      show Steps p.tables e below (T125.setTop (mkF m 72 #[.val (.int P0), .val (.int P1), .val (.ref b101), .val (.int ((own_emp (Int32.ofNat 0)) &&& (1 : Int32))), .val (.int (Int32.ofNat x123_CG))] [(.int (own_emp (Int32.ofNat x123_CG))), (.int ((own_emp (Int32.ofNat 0)) &&& (1 : Int32)))])) _
      refine XS.iload X125.here hx rfl (hb hby at_72) rfl ?_
      show Steps p.tables e below (T125.setTop (mkF m 74 #[.val (.int P0), .val (.int P1), .val (.ref b101), .val (.int ((own_emp (Int32.ofNat 0)) &&& (1 : Int32))), .val (.int (Int32.ofNat x123_CG))] [(.int (Int32.ofNat x123_CG)), (.int (own_emp (Int32.ofNat x123_CG))), (.int ((own_emp (Int32.ofNat 0)) &&& (1 : Int32)))])) _
      by_cases hm74 : (Int32.ofNat x123_CG) = (0 : Int32)
      · refine XS.ifNo X125.here hx rfl (hb hby at_74) rfl ((if0 _ _).trans (teq hm74).2) ?_
        show Steps p.tables e below (T125.setTop (mkF m 77 #[.val (.int P0), .val (.int P1), .val (.ref b101), .val (.int ((own_emp (Int32.ofNat 0)) &&& (1 : Int32))), .val (.int (Int32.ofNat x123_CG))] [(.int (own_emp (Int32.ofNat x123_CG))), (.int ((own_emp (Int32.ofNat 0)) &&& (1 : Int32)))])) _
        refine XS.iconst X125.here hx rfl (hb hby at_77) ?_
        show Steps p.tables e below (T125.setTop (mkF m 78 #[.val (.int P0), .val (.int P1), .val (.ref b101), .val (.int ((own_emp (Int32.ofNat 0)) &&& (1 : Int32))), .val (.int (Int32.ofNat x123_CG))] [(.int (1 : Int32)), (.int (own_emp (Int32.ofNat x123_CG))), (.int ((own_emp (Int32.ofNat 0)) &&& (1 : Int32)))])) _
        refine XS.goto X125.here hx rfl (pc0 := 78) (pc' := 82) rfl (hb hby at_78) (by decide) (by decide) ?_
        rw [show (if (Int32.ofNat x123_CG) = (0 : Int32) then (1 : Int32) else (0 : Int32)) = (1 : Int32) from by first | exact if_pos hm74 | exact if_neg hm74 | exact if_neg (fun q => q hm74) | simp [hm74]] at kt
        exact kt
      · refine XS.ifYes X125.here hx rfl (pc0 := 74) (pc' := 81) rfl (hb hby at_74) rfl ((if0 _ _).trans (feq hm74).2) (by decide) (by decide) ?_
        show Steps p.tables e below (T125.setTop (mkF m 81 #[.val (.int P0), .val (.int P1), .val (.ref b101), .val (.int ((own_emp (Int32.ofNat 0)) &&& (1 : Int32))), .val (.int (Int32.ofNat x123_CG))] [(.int (own_emp (Int32.ofNat x123_CG))), (.int ((own_emp (Int32.ofNat 0)) &&& (1 : Int32)))])) _
        refine XS.iconst X125.here hx rfl (hb hby at_81) ?_
        rw [show (if (Int32.ofNat x123_CG) = (0 : Int32) then (1 : Int32) else (0 : Int32)) = (0 : Int32) from by first | exact if_pos hm74 | exact if_neg hm74 | exact if_neg (fun q => q hm74) | simp [hm74]] at kt
        exact kt)
  have c127 : own_Cac Z T123.heap "java/lang/Integer" U0 := (c122.keep K123 (ninS ne102 (ninS ne108 (ninS ne111 nin0))))
  obtain ⟨_, _, ⟨T128, L128, k128, n128⟩, -, X128, ⟨Lc128, hQ128, l128, y128, z128⟩, st128⟩ := Jvm.LawKit.callS X125 hx (y := (⟨"com/example/brigid/brigid/core/WaitingLineIsEmptyPinLaw", "step", "(Lcom/example/brigid/brigid/core/WaitingLine;III)I"⟩ : MethodName)) hown (mvT hZ (hw _ (List.mem_of_getElem? (i := 35) rfl))) (mvT hZ (hw _ (List.mem_of_getElem? (i := 36) rfl))) (mvT hZ (hw _ (List.mem_of_getElem? (i := 37) rfl))) (mvT hZ (hw _ (List.mem_of_getElem? (i := 38) rfl))) (by decide) (backOf (W := 0) (rm6 l Z a0 hw [] b101 (((P0.toUInt32 >>> ((4 : Int32) &&& 31).toUInt32).toInt32) &&& (3 : Int32)) P1 x107_D0 x107_E0 x123_FG x123_HG x123_CG U0 MO MA ML U1 T123.heap n0 Z124 p123_0 p123_1 p123_2 p123_3 p123_4 p123_5 p123_6 p123_7 (show own_Dq x123_FG x123_HG x123_CG from p123_8) (show x123_CG + 1 ≤ 4 from (by omega)) ss123_0 ss123_1 c127 ss123_2 (show own_Mi Z "[Ljava/lang/Object;" MO from mO) (show own_Mi Z "java/util/ArrayDeque" MA from mA) (show own_Mi Z "java/util/ArrayList" ML from mL) (show b101 ≠ x107_D0 from ne110) (show b101 ≠ x107_E0 from ne112) (show x107_D0 ≠ x107_E0 from p107_9) g_b101 g_x107_D0 g_x107_E0) hZ (hw _ (List.mem_of_getElem? (i := 38) rfl)) (hw _ (List.mem_of_getElem? (i := 37) rfl)) (by decide) (by decide)) (g := (mkF m 101 #[.val (.int P0), .val (.int P1), .val (.ref b101), .val (.int (((own_emp (Int32.ofNat 0)) &&& (1 : Int32)) &&& (1 : Int32))), .val (.int (Int32.ofNat x123_CG))] [(.int P1), (.int (Int32.ofNat x123_CG)), (.int (((P0.toUInt32 >>> ((4 : Int32) &&& 31).toUInt32).toInt32) &&& (3 : Int32))), (.ref b101)])) rfl (by rw [hml]; rfl) (argsL := [(.ref b101), (.int (((P0.toUInt32 >>> ((4 : Int32) &&& 31).toUInt32).toInt32) &&& (3 : Int32))), (.int (Int32.ofNat x123_CG)), (.int P1)]) (rest := []) (lenOf pd_0_2 rfl) rfl (by show 2 * 0 + _ ≤ _; exact Nat.le_of_eq rfl) (hb hby at_101) (fun _ _ => ⟨rfl, K125, (by decide : 9 + 3 ≤ _), (by decide : 44 + 11 ≤ _)⟩)
  dsimp only [Pt.U, Pt.locs, Pt.cells, Pt.slots] at X128 l128 y128 z128 st128 hQ128
  subst l128 y128 z128
  obtain ⟨x128_FG, x128_HG, x128_CG, rfl, N128q, K128, p128_0, p128_1, p128_2, p128_3, p128_4, p128_5, p128_6, p128_7, p128_8, p128_9⟩ := hQ128
  have N128 := Fr.app N125 N128q
  have Z129 : n0 ≤ T128.heap.size := Nat.le_trans Z124 K128.1
  have ss128_0 : Sta Z T128.heap "java/lang/Integer$IntegerCache" "cache" "[Ljava/lang/Integer;" (.ref U0) := own_sta_keep ss123_0 K128 (allS (own_ns p123_0) (allS (own_ns p123_3) (allS (own_nsE p123_7) all0)))
  have ss128_1 : Sta Z T128.heap "java/lang/Integer$IntegerCache" "high" "I" (.int (127 : Int32)) := own_sta_keep ss123_1 K128 (allS (own_ns p123_0) (allS (own_ns p123_3) (allS (own_nsE p123_7) all0)))
  have ss128_2 : Sta Z T128.heap "java/util/ArrayList" "EMPTY_ELEMENTDATA" "[Ljava/lang/Object;" (.ref U1) := own_sta_keep ss123_2 K128 (allS (own_ns p123_0) (allS (own_ns p123_3) (allS (own_nsE p123_7) all0)))
  obtain ⟨cq130, kq130, q130a, q130b, q130c⟩ := isOf hZ rfl p128_0
  obtain ⟨_, _, ⟨T130, L130, k130, n130⟩, -, X130, ⟨Lc130, hQ130, l130, y130, z130⟩, st130⟩ := X128.virtualBack hx (y := (⟨"com/example/brigid/brigid/core/WaitingLine", "isEmpty", "()Z"⟩ : MethodName)) (z := (⟨"com/example/brigid/brigid/core/WaitingLine", "isEmpty", "()Z"⟩ : MethodName)) hown (mvT hZ (hw _ (List.mem_of_getElem? (i := 28) rfl))) (mvT hZ (hw _ (List.mem_of_getElem? (i := 29) rfl))) (notFace_of_selects (args := #[]) (mvT hZ (hw _ (List.mem_of_getElem? (i := 31) rfl)))) (mvT hZ (hw _ (List.mem_of_getElem? (i := 31) rfl))) (mvT hZ (hw _ (List.mem_of_getElem? (i := 30) rfl))) (by decide) (backOf (W := 1) (rm5 l Z a0 hw [] b101 (Int32.ofNat x128_CG) T128.heap n0 Z129 p128_0 p128_2) hZ (hw _ (List.mem_of_getElem? (i := 32) rfl)) (hw _ (List.mem_of_getElem? (i := 2) rfl)) (by decide) (by decide)) q130a q130c (g := (mkF m 108 #[.val (.int P0), .val (.int P1), .val (.ref b101), .val (.int (((own_emp (Int32.ofNat 0)) &&& (1 : Int32)) &&& (1 : Int32))), .val (.int (Int32.ofNat x128_CG))] [(.ref b101), (.int (((own_emp (Int32.ofNat 0)) &&& (1 : Int32)) &&& (1 : Int32)))])) rfl (by rw [hml]; rfl) (Steps.refl _) (argsL := []) (rest := [(.int (((own_emp (Int32.ofNat 0)) &&& (1 : Int32)) &&& (1 : Int32)))]) (lenOf pd_0_1 rfl) rfl (by show 2 * 0 + _ ≤ _; exact Nat.le_of_eq rfl) (hb hby at_108) (fun _ _ => ⟨rfl, rfl, (by decide : 12 + 0 ≤ _), (by decide : 55 + 0 ≤ _)⟩)
  dsimp only [Pt.U, Pt.locs, Pt.cells, Pt.slots] at X130 l130 y130 z130 st130 hQ130
  subst l130 y130 z130
  obtain ⟨rfl, N130q, K130⟩ := hQ130
  have N130 := Fr.app N128 N130q
  have pre131 : ∀ t, Steps p.tables e below (T130.setTop (mkF m 121 #[.val (.int P0), .val (.int P1), .val (.ref b101), .val (.int (((own_emp (Int32.ofNat 0)) &&& (1 : Int32)) &&& (1 : Int32))), .val (.int (Int32.ofNat x128_CG))] [(.int (if (Int32.ofNat x128_CG) = (0 : Int32) then (1 : Int32) else (0 : Int32))), (.int (own_emp (Int32.ofNat x128_CG))), (.int (((own_emp (Int32.ofNat 0)) &&& (1 : Int32)) &&& (1 : Int32)))])) t → Steps p.tables e below (s₁.setTop (entryFrame m #[(.int P0), (.int P1)] maxLocals)) t := fun t kt => pre126 t (by
      show Steps p.tables e below (T125.setTop (mkF m 82 #[.val (.int P0), .val (.int P1), .val (.ref b101), .val (.int ((own_emp (Int32.ofNat 0)) &&& (1 : Int32))), .val (.int (Int32.ofNat x123_CG))] [(.int (if (Int32.ofNat x123_CG) = (0 : Int32) then (1 : Int32) else (0 : Int32))), (.int (own_emp (Int32.ofNat x123_CG))), (.int ((own_emp (Int32.ofNat 0)) &&& (1 : Int32)))])) _
      refine XS.icmpNo X125.here hx rfl (hb hby at_82) rfl (teq (show (own_emp (Int32.ofNat x123_CG)) = (if (Int32.ofNat x123_CG) = (0 : Int32) then (1 : Int32) else (0 : Int32)) from rfl)).2 ?_
      show Steps p.tables e below (T125.setTop (mkF m 85 #[.val (.int P0), .val (.int P1), .val (.ref b101), .val (.int ((own_emp (Int32.ofNat 0)) &&& (1 : Int32))), .val (.int (Int32.ofNat x123_CG))] [(.int ((own_emp (Int32.ofNat 0)) &&& (1 : Int32)))])) _
      refine XS.iconst X125.here hx rfl (hb hby at_85) ?_
      show Steps p.tables e below (T125.setTop (mkF m 86 #[.val (.int P0), .val (.int P1), .val (.ref b101), .val (.int ((own_emp (Int32.ofNat 0)) &&& (1 : Int32))), .val (.int (Int32.ofNat x123_CG))] [(.int (1 : Int32)), (.int ((own_emp (Int32.ofNat 0)) &&& (1 : Int32)))])) _
      refine XS.goto X125.here hx rfl (pc0 := 86) (pc' := 90) rfl (hb hby at_86) (by decide) (by decide) ?_
      show Steps p.tables e below (T125.setTop (mkF m 90 #[.val (.int P0), .val (.int P1), .val (.ref b101), .val (.int ((own_emp (Int32.ofNat 0)) &&& (1 : Int32))), .val (.int (Int32.ofNat x123_CG))] [(.int (1 : Int32)), (.int ((own_emp (Int32.ofNat 0)) &&& (1 : Int32)))])) _
      refine XS.iand X125.here hx rfl (hb hby at_90) rfl ?_
      show Steps p.tables e below (T125.setTop (mkF m 91 #[.val (.int P0), .val (.int P1), .val (.ref b101), .val (.int ((own_emp (Int32.ofNat 0)) &&& (1 : Int32))), .val (.int (Int32.ofNat x123_CG))] [(.int (((own_emp (Int32.ofNat 0)) &&& (1 : Int32)) &&& (1 : Int32)))])) _
      refine XS.istoreN X125.here hx rfl (hb hby at_91) rfl (l' := #[.val (.int P0), .val (.int P1), .val (.ref b101), .val (.int (((own_emp (Int32.ofNat 0)) &&& (1 : Int32)) &&& (1 : Int32))), .val (.int (Int32.ofNat x123_CG))]) rfl ?_
      show Steps p.tables e below (T125.setTop (mkF m 92 #[.val (.int P0), .val (.int P1), .val (.ref b101), .val (.int (((own_emp (Int32.ofNat 0)) &&& (1 : Int32)) &&& (1 : Int32))), .val (.int (Int32.ofNat x123_CG))] [])) _
      refine XS.aloadN X125.here hx rfl (hb hby at_92) rfl rfl ?_
      show Steps p.tables e below (T125.setTop (mkF m 93 #[.val (.int P0), .val (.int P1), .val (.ref b101), .val (.int (((own_emp (Int32.ofNat 0)) &&& (1 : Int32)) &&& (1 : Int32))), .val (.int (Int32.ofNat x123_CG))] [(.ref b101)])) _
      refine XS.iloadN X125.here hx rfl (hb hby at_93) rfl ?_
      show Steps p.tables e below (T125.setTop (mkF m 94 #[.val (.int P0), .val (.int P1), .val (.ref b101), .val (.int (((own_emp (Int32.ofNat 0)) &&& (1 : Int32)) &&& (1 : Int32))), .val (.int (Int32.ofNat x123_CG))] [(.int P0), (.ref b101)])) _
      refine XS.iconst X125.here hx rfl (hb hby at_94) ?_
      show Steps p.tables e below (T125.setTop (mkF m 95 #[.val (.int P0), .val (.int P1), .val (.ref b101), .val (.int (((own_emp (Int32.ofNat 0)) &&& (1 : Int32)) &&& (1 : Int32))), .val (.int (Int32.ofNat x123_CG))] [(.int (4 : Int32)), (.int P0), (.ref b101)])) _
      refine XS.iushr X125.here hx rfl (hb hby at_95) rfl ?_
      show Steps p.tables e below (T125.setTop (mkF m 96 #[.val (.int P0), .val (.int P1), .val (.ref b101), .val (.int (((own_emp (Int32.ofNat 0)) &&& (1 : Int32)) &&& (1 : Int32))), .val (.int (Int32.ofNat x123_CG))] [(.int ((P0.toUInt32 >>> ((4 : Int32) &&& 31).toUInt32).toInt32)), (.ref b101)])) _
      refine XS.iconst X125.here hx rfl (hb hby at_96) ?_
      show Steps p.tables e below (T125.setTop (mkF m 97 #[.val (.int P0), .val (.int P1), .val (.ref b101), .val (.int (((own_emp (Int32.ofNat 0)) &&& (1 : Int32)) &&& (1 : Int32))), .val (.int (Int32.ofNat x123_CG))] [(.int (3 : Int32)), (.int ((P0.toUInt32 >>> ((4 : Int32) &&& 31).toUInt32).toInt32)), (.ref b101)])) _
      refine XS.iand X125.here hx rfl (hb hby at_97) rfl ?_
      show Steps p.tables e below (T125.setTop (mkF m 98 #[.val (.int P0), .val (.int P1), .val (.ref b101), .val (.int (((own_emp (Int32.ofNat 0)) &&& (1 : Int32)) &&& (1 : Int32))), .val (.int (Int32.ofNat x123_CG))] [(.int (((P0.toUInt32 >>> ((4 : Int32) &&& 31).toUInt32).toInt32) &&& (3 : Int32))), (.ref b101)])) _
      refine XS.iload X125.here hx rfl (hb hby at_98) rfl ?_
      show Steps p.tables e below (T125.setTop (mkF m 100 #[.val (.int P0), .val (.int P1), .val (.ref b101), .val (.int (((own_emp (Int32.ofNat 0)) &&& (1 : Int32)) &&& (1 : Int32))), .val (.int (Int32.ofNat x123_CG))] [(.int (Int32.ofNat x123_CG)), (.int (((P0.toUInt32 >>> ((4 : Int32) &&& 31).toUInt32).toInt32) &&& (3 : Int32))), (.ref b101)])) _
      refine XS.iloadN X125.here hx rfl (hb hby at_100) rfl ?_
      show Steps p.tables e below (T125.setTop (mkF m 101 #[.val (.int P0), .val (.int P1), .val (.ref b101), .val (.int (((own_emp (Int32.ofNat 0)) &&& (1 : Int32)) &&& (1 : Int32))), .val (.int (Int32.ofNat x123_CG))] [(.int P1), (.int (Int32.ofNat x123_CG)), (.int (((P0.toUInt32 >>> ((4 : Int32) &&& 31).toUInt32).toInt32) &&& (3 : Int32))), (.ref b101)])) _
      refine st128 _ ?_
      show Steps p.tables e below (T128.setTop (mkF m 104 #[.val (.int P0), .val (.int P1), .val (.ref b101), .val (.int (((own_emp (Int32.ofNat 0)) &&& (1 : Int32)) &&& (1 : Int32))), .val (.int (Int32.ofNat x123_CG))] [(.int (Int32.ofNat x128_CG))])) _
      refine XS.istore X128.here hx rfl (hb hby at_104) rfl (l' := #[.val (.int P0), .val (.int P1), .val (.ref b101), .val (.int (((own_emp (Int32.ofNat 0)) &&& (1 : Int32)) &&& (1 : Int32))), .val (.int (Int32.ofNat x128_CG))]) rfl ?_
      show Steps p.tables e below (T128.setTop (mkF m 106 #[.val (.int P0), .val (.int P1), .val (.ref b101), .val (.int (((own_emp (Int32.ofNat 0)) &&& (1 : Int32)) &&& (1 : Int32))), .val (.int (Int32.ofNat x128_CG))] [])) _
      refine XS.iloadN X128.here hx rfl (hb hby at_106) rfl ?_
      show Steps p.tables e below (T128.setTop (mkF m 107 #[.val (.int P0), .val (.int P1), .val (.ref b101), .val (.int (((own_emp (Int32.ofNat 0)) &&& (1 : Int32)) &&& (1 : Int32))), .val (.int (Int32.ofNat x128_CG))] [(.int (((own_emp (Int32.ofNat 0)) &&& (1 : Int32)) &&& (1 : Int32)))])) _
      refine XS.aloadN X128.here hx rfl (hb hby at_107) rfl rfl ?_
      show Steps p.tables e below (T128.setTop (mkF m 108 #[.val (.int P0), .val (.int P1), .val (.ref b101), .val (.int (((own_emp (Int32.ofNat 0)) &&& (1 : Int32)) &&& (1 : Int32))), .val (.int (Int32.ofNat x128_CG))] [(.ref b101), (.int (((own_emp (Int32.ofNat 0)) &&& (1 : Int32)) &&& (1 : Int32)))])) _
      refine st130.trans ?_
      show Steps p.tables e below (T130.setTop (mkF m 111 #[.val (.int P0), .val (.int P1), .val (.ref b101), .val (.int (((own_emp (Int32.ofNat 0)) &&& (1 : Int32)) &&& (1 : Int32))), .val (.int (Int32.ofNat x128_CG))] [(.int (own_emp (Int32.ofNat x128_CG))), (.int (((own_emp (Int32.ofNat 0)) &&& (1 : Int32)) &&& (1 : Int32)))])) _
      refine XS.iload X130.here hx rfl (hb hby at_111) rfl ?_
      show Steps p.tables e below (T130.setTop (mkF m 113 #[.val (.int P0), .val (.int P1), .val (.ref b101), .val (.int (((own_emp (Int32.ofNat 0)) &&& (1 : Int32)) &&& (1 : Int32))), .val (.int (Int32.ofNat x128_CG))] [(.int (Int32.ofNat x128_CG)), (.int (own_emp (Int32.ofNat x128_CG))), (.int (((own_emp (Int32.ofNat 0)) &&& (1 : Int32)) &&& (1 : Int32)))])) _
      by_cases hm113 : (Int32.ofNat x128_CG) = (0 : Int32)
      · refine XS.ifNo X130.here hx rfl (hb hby at_113) rfl ((if0 _ _).trans (teq hm113).2) ?_
        show Steps p.tables e below (T130.setTop (mkF m 116 #[.val (.int P0), .val (.int P1), .val (.ref b101), .val (.int (((own_emp (Int32.ofNat 0)) &&& (1 : Int32)) &&& (1 : Int32))), .val (.int (Int32.ofNat x128_CG))] [(.int (own_emp (Int32.ofNat x128_CG))), (.int (((own_emp (Int32.ofNat 0)) &&& (1 : Int32)) &&& (1 : Int32)))])) _
        refine XS.iconst X130.here hx rfl (hb hby at_116) ?_
        show Steps p.tables e below (T130.setTop (mkF m 117 #[.val (.int P0), .val (.int P1), .val (.ref b101), .val (.int (((own_emp (Int32.ofNat 0)) &&& (1 : Int32)) &&& (1 : Int32))), .val (.int (Int32.ofNat x128_CG))] [(.int (1 : Int32)), (.int (own_emp (Int32.ofNat x128_CG))), (.int (((own_emp (Int32.ofNat 0)) &&& (1 : Int32)) &&& (1 : Int32)))])) _
        refine XS.goto X130.here hx rfl (pc0 := 117) (pc' := 121) rfl (hb hby at_117) (by decide) (by decide) ?_
        rw [show (if (Int32.ofNat x128_CG) = (0 : Int32) then (1 : Int32) else (0 : Int32)) = (1 : Int32) from by first | exact if_pos hm113 | exact if_neg hm113 | exact if_neg (fun q => q hm113) | simp [hm113]] at kt
        exact kt
      · refine XS.ifYes X130.here hx rfl (pc0 := 113) (pc' := 120) rfl (hb hby at_113) rfl ((if0 _ _).trans (feq hm113).2) (by decide) (by decide) ?_
        show Steps p.tables e below (T130.setTop (mkF m 120 #[.val (.int P0), .val (.int P1), .val (.ref b101), .val (.int (((own_emp (Int32.ofNat 0)) &&& (1 : Int32)) &&& (1 : Int32))), .val (.int (Int32.ofNat x128_CG))] [(.int (own_emp (Int32.ofNat x128_CG))), (.int (((own_emp (Int32.ofNat 0)) &&& (1 : Int32)) &&& (1 : Int32)))])) _
        refine XS.iconst X130.here hx rfl (hb hby at_120) ?_
        rw [show (if (Int32.ofNat x128_CG) = (0 : Int32) then (1 : Int32) else (0 : Int32)) = (0 : Int32) from by first | exact if_pos hm113 | exact if_neg hm113 | exact if_neg (fun q => q hm113) | simp [hm113]] at kt
        exact kt)
  have c132 : own_Cac Z T128.heap "java/lang/Integer" U0 := (c127.keep K128 (ninS ne102 (ninS ne108 (ninS ne111 nin0))))
  obtain ⟨_, _, ⟨T133, L133, k133, n133⟩, -, X133, ⟨Lc133, hQ133, l133, y133, z133⟩, st133⟩ := Jvm.LawKit.callS X130 hx (y := (⟨"com/example/brigid/brigid/core/WaitingLineIsEmptyPinLaw", "step", "(Lcom/example/brigid/brigid/core/WaitingLine;III)I"⟩ : MethodName)) hown (mvT hZ (hw _ (List.mem_of_getElem? (i := 35) rfl))) (mvT hZ (hw _ (List.mem_of_getElem? (i := 36) rfl))) (mvT hZ (hw _ (List.mem_of_getElem? (i := 37) rfl))) (mvT hZ (hw _ (List.mem_of_getElem? (i := 38) rfl))) (by decide) (backOf (W := 0) (rm6 l Z a0 hw [] b101 (((P0.toUInt32 >>> ((6 : Int32) &&& 31).toUInt32).toInt32) &&& (3 : Int32)) P1 x107_D0 x107_E0 x128_FG x128_HG x128_CG U0 MO MA ML U1 T128.heap n0 Z129 p128_0 p128_1 p128_2 p128_3 p128_4 p128_5 p128_6 p128_7 (show own_Dq x128_FG x128_HG x128_CG from p128_8) (show x128_CG + 1 ≤ 4 from (by omega)) ss128_0 ss128_1 c132 ss128_2 (show own_Mi Z "[Ljava/lang/Object;" MO from mO) (show own_Mi Z "java/util/ArrayDeque" MA from mA) (show own_Mi Z "java/util/ArrayList" ML from mL) (show b101 ≠ x107_D0 from ne110) (show b101 ≠ x107_E0 from ne112) (show x107_D0 ≠ x107_E0 from p107_9) g_b101 g_x107_D0 g_x107_E0) hZ (hw _ (List.mem_of_getElem? (i := 38) rfl)) (hw _ (List.mem_of_getElem? (i := 37) rfl)) (by decide) (by decide)) (g := (mkF m 141 #[.val (.int P0), .val (.int P1), .val (.ref b101), .val (.int ((((own_emp (Int32.ofNat 0)) &&& (1 : Int32)) &&& (1 : Int32)) &&& (1 : Int32))), .val (.int (Int32.ofNat x128_CG))] [(.int P1), (.int (Int32.ofNat x128_CG)), (.int (((P0.toUInt32 >>> ((6 : Int32) &&& 31).toUInt32).toInt32) &&& (3 : Int32))), (.ref b101)])) rfl (by rw [hml]; rfl) (argsL := [(.ref b101), (.int (((P0.toUInt32 >>> ((6 : Int32) &&& 31).toUInt32).toInt32) &&& (3 : Int32))), (.int (Int32.ofNat x128_CG)), (.int P1)]) (rest := []) (lenOf pd_0_2 rfl) rfl (by show 2 * 0 + _ ≤ _; exact Nat.le_of_eq rfl) (hb hby at_141) (fun _ _ => ⟨rfl, K130, (by decide : 12 + 3 ≤ _), (by decide : 55 + 11 ≤ _)⟩)
  dsimp only [Pt.U, Pt.locs, Pt.cells, Pt.slots] at X133 l133 y133 z133 st133 hQ133
  subst l133 y133 z133
  obtain ⟨x133_FG, x133_HG, x133_CG, rfl, N133q, K133, p133_0, p133_1, p133_2, p133_3, p133_4, p133_5, p133_6, p133_7, p133_8, p133_9⟩ := hQ133
  have N133 := Fr.app N130 N133q
  have Z134 : n0 ≤ T133.heap.size := Nat.le_trans Z129 K133.1
  have ss133_0 : Sta Z T133.heap "java/lang/Integer$IntegerCache" "cache" "[Ljava/lang/Integer;" (.ref U0) := own_sta_keep ss128_0 K133 (allS (own_ns p128_0) (allS (own_ns p128_3) (allS (own_nsE p128_7) all0)))
  have ss133_1 : Sta Z T133.heap "java/lang/Integer$IntegerCache" "high" "I" (.int (127 : Int32)) := own_sta_keep ss128_1 K133 (allS (own_ns p128_0) (allS (own_ns p128_3) (allS (own_nsE p128_7) all0)))
  have ss133_2 : Sta Z T133.heap "java/util/ArrayList" "EMPTY_ELEMENTDATA" "[Ljava/lang/Object;" (.ref U1) := own_sta_keep ss128_2 K133 (allS (own_ns p128_0) (allS (own_ns p128_3) (allS (own_nsE p128_7) all0)))
  obtain ⟨cq135, kq135, q135a, q135b, q135c⟩ := isOf hZ rfl p133_0
  obtain ⟨_, _, ⟨T135, L135, k135, n135⟩, -, X135, ⟨Lc135, hQ135, l135, y135, z135⟩, st135⟩ := X133.virtualBack hx (y := (⟨"com/example/brigid/brigid/core/WaitingLine", "isEmpty", "()Z"⟩ : MethodName)) (z := (⟨"com/example/brigid/brigid/core/WaitingLine", "isEmpty", "()Z"⟩ : MethodName)) hown (mvT hZ (hw _ (List.mem_of_getElem? (i := 28) rfl))) (mvT hZ (hw _ (List.mem_of_getElem? (i := 29) rfl))) (notFace_of_selects (args := #[]) (mvT hZ (hw _ (List.mem_of_getElem? (i := 31) rfl)))) (mvT hZ (hw _ (List.mem_of_getElem? (i := 31) rfl))) (mvT hZ (hw _ (List.mem_of_getElem? (i := 30) rfl))) (by decide) (backOf (W := 1) (rm5 l Z a0 hw [] b101 (Int32.ofNat x133_CG) T133.heap n0 Z134 p133_0 p133_2) hZ (hw _ (List.mem_of_getElem? (i := 32) rfl)) (hw _ (List.mem_of_getElem? (i := 2) rfl)) (by decide) (by decide)) q135a q135c (g := (mkF m 148 #[.val (.int P0), .val (.int P1), .val (.ref b101), .val (.int ((((own_emp (Int32.ofNat 0)) &&& (1 : Int32)) &&& (1 : Int32)) &&& (1 : Int32))), .val (.int (Int32.ofNat x133_CG))] [(.ref b101), (.int ((((own_emp (Int32.ofNat 0)) &&& (1 : Int32)) &&& (1 : Int32)) &&& (1 : Int32)))])) rfl (by rw [hml]; rfl) (Steps.refl _) (argsL := []) (rest := [(.int ((((own_emp (Int32.ofNat 0)) &&& (1 : Int32)) &&& (1 : Int32)) &&& (1 : Int32)))]) (lenOf pd_0_1 rfl) rfl (by show 2 * 0 + _ ≤ _; exact Nat.le_of_eq rfl) (hb hby at_148) (fun _ _ => ⟨rfl, rfl, (by decide : 15 + 0 ≤ _), (by decide : 66 + 0 ≤ _)⟩)
  dsimp only [Pt.U, Pt.locs, Pt.cells, Pt.slots] at X135 l135 y135 z135 st135 hQ135
  subst l135 y135 z135
  obtain ⟨rfl, N135q, K135⟩ := hQ135
  have N135 := Fr.app N133 N135q
  have pre136 : ∀ t, Steps p.tables e below (T135.setTop (mkF m 161 #[.val (.int P0), .val (.int P1), .val (.ref b101), .val (.int ((((own_emp (Int32.ofNat 0)) &&& (1 : Int32)) &&& (1 : Int32)) &&& (1 : Int32))), .val (.int (Int32.ofNat x133_CG))] [(.int (if (Int32.ofNat x133_CG) = (0 : Int32) then (1 : Int32) else (0 : Int32))), (.int (own_emp (Int32.ofNat x133_CG))), (.int ((((own_emp (Int32.ofNat 0)) &&& (1 : Int32)) &&& (1 : Int32)) &&& (1 : Int32)))])) t → Steps p.tables e below (s₁.setTop (entryFrame m #[(.int P0), (.int P1)] maxLocals)) t := fun t kt => pre131 t (by
      show Steps p.tables e below (T130.setTop (mkF m 121 #[.val (.int P0), .val (.int P1), .val (.ref b101), .val (.int (((own_emp (Int32.ofNat 0)) &&& (1 : Int32)) &&& (1 : Int32))), .val (.int (Int32.ofNat x128_CG))] [(.int (if (Int32.ofNat x128_CG) = (0 : Int32) then (1 : Int32) else (0 : Int32))), (.int (own_emp (Int32.ofNat x128_CG))), (.int (((own_emp (Int32.ofNat 0)) &&& (1 : Int32)) &&& (1 : Int32)))])) _
      refine XS.icmpNo X130.here hx rfl (hb hby at_121) rfl (teq (show (own_emp (Int32.ofNat x128_CG)) = (if (Int32.ofNat x128_CG) = (0 : Int32) then (1 : Int32) else (0 : Int32)) from rfl)).2 ?_
      show Steps p.tables e below (T130.setTop (mkF m 124 #[.val (.int P0), .val (.int P1), .val (.ref b101), .val (.int (((own_emp (Int32.ofNat 0)) &&& (1 : Int32)) &&& (1 : Int32))), .val (.int (Int32.ofNat x128_CG))] [(.int (((own_emp (Int32.ofNat 0)) &&& (1 : Int32)) &&& (1 : Int32)))])) _
      refine XS.iconst X130.here hx rfl (hb hby at_124) ?_
      show Steps p.tables e below (T130.setTop (mkF m 125 #[.val (.int P0), .val (.int P1), .val (.ref b101), .val (.int (((own_emp (Int32.ofNat 0)) &&& (1 : Int32)) &&& (1 : Int32))), .val (.int (Int32.ofNat x128_CG))] [(.int (1 : Int32)), (.int (((own_emp (Int32.ofNat 0)) &&& (1 : Int32)) &&& (1 : Int32)))])) _
      refine XS.goto X130.here hx rfl (pc0 := 125) (pc' := 129) rfl (hb hby at_125) (by decide) (by decide) ?_
      show Steps p.tables e below (T130.setTop (mkF m 129 #[.val (.int P0), .val (.int P1), .val (.ref b101), .val (.int (((own_emp (Int32.ofNat 0)) &&& (1 : Int32)) &&& (1 : Int32))), .val (.int (Int32.ofNat x128_CG))] [(.int (1 : Int32)), (.int (((own_emp (Int32.ofNat 0)) &&& (1 : Int32)) &&& (1 : Int32)))])) _
      refine XS.iand X130.here hx rfl (hb hby at_129) rfl ?_
      show Steps p.tables e below (T130.setTop (mkF m 130 #[.val (.int P0), .val (.int P1), .val (.ref b101), .val (.int (((own_emp (Int32.ofNat 0)) &&& (1 : Int32)) &&& (1 : Int32))), .val (.int (Int32.ofNat x128_CG))] [(.int ((((own_emp (Int32.ofNat 0)) &&& (1 : Int32)) &&& (1 : Int32)) &&& (1 : Int32)))])) _
      refine XS.istoreN X130.here hx rfl (hb hby at_130) rfl (l' := #[.val (.int P0), .val (.int P1), .val (.ref b101), .val (.int ((((own_emp (Int32.ofNat 0)) &&& (1 : Int32)) &&& (1 : Int32)) &&& (1 : Int32))), .val (.int (Int32.ofNat x128_CG))]) rfl ?_
      show Steps p.tables e below (T130.setTop (mkF m 131 #[.val (.int P0), .val (.int P1), .val (.ref b101), .val (.int ((((own_emp (Int32.ofNat 0)) &&& (1 : Int32)) &&& (1 : Int32)) &&& (1 : Int32))), .val (.int (Int32.ofNat x128_CG))] [])) _
      refine XS.aloadN X130.here hx rfl (hb hby at_131) rfl rfl ?_
      show Steps p.tables e below (T130.setTop (mkF m 132 #[.val (.int P0), .val (.int P1), .val (.ref b101), .val (.int ((((own_emp (Int32.ofNat 0)) &&& (1 : Int32)) &&& (1 : Int32)) &&& (1 : Int32))), .val (.int (Int32.ofNat x128_CG))] [(.ref b101)])) _
      refine XS.iloadN X130.here hx rfl (hb hby at_132) rfl ?_
      show Steps p.tables e below (T130.setTop (mkF m 133 #[.val (.int P0), .val (.int P1), .val (.ref b101), .val (.int ((((own_emp (Int32.ofNat 0)) &&& (1 : Int32)) &&& (1 : Int32)) &&& (1 : Int32))), .val (.int (Int32.ofNat x128_CG))] [(.int P0), (.ref b101)])) _
      refine XS.bipush X130.here hx rfl (hb hby at_133) ?_
      show Steps p.tables e below (T130.setTop (mkF m 135 #[.val (.int P0), .val (.int P1), .val (.ref b101), .val (.int ((((own_emp (Int32.ofNat 0)) &&& (1 : Int32)) &&& (1 : Int32)) &&& (1 : Int32))), .val (.int (Int32.ofNat x128_CG))] [(.int (6 : Int32)), (.int P0), (.ref b101)])) _
      refine XS.iushr X130.here hx rfl (hb hby at_135) rfl ?_
      show Steps p.tables e below (T130.setTop (mkF m 136 #[.val (.int P0), .val (.int P1), .val (.ref b101), .val (.int ((((own_emp (Int32.ofNat 0)) &&& (1 : Int32)) &&& (1 : Int32)) &&& (1 : Int32))), .val (.int (Int32.ofNat x128_CG))] [(.int ((P0.toUInt32 >>> ((6 : Int32) &&& 31).toUInt32).toInt32)), (.ref b101)])) _
      refine XS.iconst X130.here hx rfl (hb hby at_136) ?_
      show Steps p.tables e below (T130.setTop (mkF m 137 #[.val (.int P0), .val (.int P1), .val (.ref b101), .val (.int ((((own_emp (Int32.ofNat 0)) &&& (1 : Int32)) &&& (1 : Int32)) &&& (1 : Int32))), .val (.int (Int32.ofNat x128_CG))] [(.int (3 : Int32)), (.int ((P0.toUInt32 >>> ((6 : Int32) &&& 31).toUInt32).toInt32)), (.ref b101)])) _
      refine XS.iand X130.here hx rfl (hb hby at_137) rfl ?_
      show Steps p.tables e below (T130.setTop (mkF m 138 #[.val (.int P0), .val (.int P1), .val (.ref b101), .val (.int ((((own_emp (Int32.ofNat 0)) &&& (1 : Int32)) &&& (1 : Int32)) &&& (1 : Int32))), .val (.int (Int32.ofNat x128_CG))] [(.int (((P0.toUInt32 >>> ((6 : Int32) &&& 31).toUInt32).toInt32) &&& (3 : Int32))), (.ref b101)])) _
      refine XS.iload X130.here hx rfl (hb hby at_138) rfl ?_
      show Steps p.tables e below (T130.setTop (mkF m 140 #[.val (.int P0), .val (.int P1), .val (.ref b101), .val (.int ((((own_emp (Int32.ofNat 0)) &&& (1 : Int32)) &&& (1 : Int32)) &&& (1 : Int32))), .val (.int (Int32.ofNat x128_CG))] [(.int (Int32.ofNat x128_CG)), (.int (((P0.toUInt32 >>> ((6 : Int32) &&& 31).toUInt32).toInt32) &&& (3 : Int32))), (.ref b101)])) _
      refine XS.iloadN X130.here hx rfl (hb hby at_140) rfl ?_
      show Steps p.tables e below (T130.setTop (mkF m 141 #[.val (.int P0), .val (.int P1), .val (.ref b101), .val (.int ((((own_emp (Int32.ofNat 0)) &&& (1 : Int32)) &&& (1 : Int32)) &&& (1 : Int32))), .val (.int (Int32.ofNat x128_CG))] [(.int P1), (.int (Int32.ofNat x128_CG)), (.int (((P0.toUInt32 >>> ((6 : Int32) &&& 31).toUInt32).toInt32) &&& (3 : Int32))), (.ref b101)])) _
      refine st133 _ ?_
      show Steps p.tables e below (T133.setTop (mkF m 144 #[.val (.int P0), .val (.int P1), .val (.ref b101), .val (.int ((((own_emp (Int32.ofNat 0)) &&& (1 : Int32)) &&& (1 : Int32)) &&& (1 : Int32))), .val (.int (Int32.ofNat x128_CG))] [(.int (Int32.ofNat x133_CG))])) _
      refine XS.istore X133.here hx rfl (hb hby at_144) rfl (l' := #[.val (.int P0), .val (.int P1), .val (.ref b101), .val (.int ((((own_emp (Int32.ofNat 0)) &&& (1 : Int32)) &&& (1 : Int32)) &&& (1 : Int32))), .val (.int (Int32.ofNat x133_CG))]) rfl ?_
      show Steps p.tables e below (T133.setTop (mkF m 146 #[.val (.int P0), .val (.int P1), .val (.ref b101), .val (.int ((((own_emp (Int32.ofNat 0)) &&& (1 : Int32)) &&& (1 : Int32)) &&& (1 : Int32))), .val (.int (Int32.ofNat x133_CG))] [])) _
      refine XS.iloadN X133.here hx rfl (hb hby at_146) rfl ?_
      show Steps p.tables e below (T133.setTop (mkF m 147 #[.val (.int P0), .val (.int P1), .val (.ref b101), .val (.int ((((own_emp (Int32.ofNat 0)) &&& (1 : Int32)) &&& (1 : Int32)) &&& (1 : Int32))), .val (.int (Int32.ofNat x133_CG))] [(.int ((((own_emp (Int32.ofNat 0)) &&& (1 : Int32)) &&& (1 : Int32)) &&& (1 : Int32)))])) _
      refine XS.aloadN X133.here hx rfl (hb hby at_147) rfl rfl ?_
      show Steps p.tables e below (T133.setTop (mkF m 148 #[.val (.int P0), .val (.int P1), .val (.ref b101), .val (.int ((((own_emp (Int32.ofNat 0)) &&& (1 : Int32)) &&& (1 : Int32)) &&& (1 : Int32))), .val (.int (Int32.ofNat x133_CG))] [(.ref b101), (.int ((((own_emp (Int32.ofNat 0)) &&& (1 : Int32)) &&& (1 : Int32)) &&& (1 : Int32)))])) _
      refine st135.trans ?_
      show Steps p.tables e below (T135.setTop (mkF m 151 #[.val (.int P0), .val (.int P1), .val (.ref b101), .val (.int ((((own_emp (Int32.ofNat 0)) &&& (1 : Int32)) &&& (1 : Int32)) &&& (1 : Int32))), .val (.int (Int32.ofNat x133_CG))] [(.int (own_emp (Int32.ofNat x133_CG))), (.int ((((own_emp (Int32.ofNat 0)) &&& (1 : Int32)) &&& (1 : Int32)) &&& (1 : Int32)))])) _
      refine XS.iload X135.here hx rfl (hb hby at_151) rfl ?_
      show Steps p.tables e below (T135.setTop (mkF m 153 #[.val (.int P0), .val (.int P1), .val (.ref b101), .val (.int ((((own_emp (Int32.ofNat 0)) &&& (1 : Int32)) &&& (1 : Int32)) &&& (1 : Int32))), .val (.int (Int32.ofNat x133_CG))] [(.int (Int32.ofNat x133_CG)), (.int (own_emp (Int32.ofNat x133_CG))), (.int ((((own_emp (Int32.ofNat 0)) &&& (1 : Int32)) &&& (1 : Int32)) &&& (1 : Int32)))])) _
      by_cases hm153 : (Int32.ofNat x133_CG) = (0 : Int32)
      · refine XS.ifNo X135.here hx rfl (hb hby at_153) rfl ((if0 _ _).trans (teq hm153).2) ?_
        show Steps p.tables e below (T135.setTop (mkF m 156 #[.val (.int P0), .val (.int P1), .val (.ref b101), .val (.int ((((own_emp (Int32.ofNat 0)) &&& (1 : Int32)) &&& (1 : Int32)) &&& (1 : Int32))), .val (.int (Int32.ofNat x133_CG))] [(.int (own_emp (Int32.ofNat x133_CG))), (.int ((((own_emp (Int32.ofNat 0)) &&& (1 : Int32)) &&& (1 : Int32)) &&& (1 : Int32)))])) _
        refine XS.iconst X135.here hx rfl (hb hby at_156) ?_
        show Steps p.tables e below (T135.setTop (mkF m 157 #[.val (.int P0), .val (.int P1), .val (.ref b101), .val (.int ((((own_emp (Int32.ofNat 0)) &&& (1 : Int32)) &&& (1 : Int32)) &&& (1 : Int32))), .val (.int (Int32.ofNat x133_CG))] [(.int (1 : Int32)), (.int (own_emp (Int32.ofNat x133_CG))), (.int ((((own_emp (Int32.ofNat 0)) &&& (1 : Int32)) &&& (1 : Int32)) &&& (1 : Int32)))])) _
        refine XS.goto X135.here hx rfl (pc0 := 157) (pc' := 161) rfl (hb hby at_157) (by decide) (by decide) ?_
        rw [show (if (Int32.ofNat x133_CG) = (0 : Int32) then (1 : Int32) else (0 : Int32)) = (1 : Int32) from by first | exact if_pos hm153 | exact if_neg hm153 | exact if_neg (fun q => q hm153) | simp [hm153]] at kt
        exact kt
      · refine XS.ifYes X135.here hx rfl (pc0 := 153) (pc' := 160) rfl (hb hby at_153) rfl ((if0 _ _).trans (feq hm153).2) (by decide) (by decide) ?_
        show Steps p.tables e below (T135.setTop (mkF m 160 #[.val (.int P0), .val (.int P1), .val (.ref b101), .val (.int ((((own_emp (Int32.ofNat 0)) &&& (1 : Int32)) &&& (1 : Int32)) &&& (1 : Int32))), .val (.int (Int32.ofNat x133_CG))] [(.int (own_emp (Int32.ofNat x133_CG))), (.int ((((own_emp (Int32.ofNat 0)) &&& (1 : Int32)) &&& (1 : Int32)) &&& (1 : Int32)))])) _
        refine XS.iconst X135.here hx rfl (hb hby at_160) ?_
        rw [show (if (Int32.ofNat x133_CG) = (0 : Int32) then (1 : Int32) else (0 : Int32)) = (0 : Int32) from by first | exact if_pos hm153 | exact if_neg hm153 | exact if_neg (fun q => q hm153) | simp [hm153]] at kt
        exact kt)
  have pre137 : ∀ t, Steps p.tables e below (T135.setTop (mkF m 172 #[.val (.int P0), .val (.int P1), .val (.ref b101), .val (.int (((((own_emp (Int32.ofNat 0)) &&& (1 : Int32)) &&& (1 : Int32)) &&& (1 : Int32)) &&& (1 : Int32))), .val (.int (Int32.ofNat x133_CG))] [(.int (((((own_emp (Int32.ofNat 0)) &&& (1 : Int32)) &&& (1 : Int32)) &&& (1 : Int32)) &&& (1 : Int32)))])) t → Steps p.tables e below (s₁.setTop (entryFrame m #[(.int P0), (.int P1)] maxLocals)) t := fun t kt => pre136 t (by
      show Steps p.tables e below (T135.setTop (mkF m 161 #[.val (.int P0), .val (.int P1), .val (.ref b101), .val (.int ((((own_emp (Int32.ofNat 0)) &&& (1 : Int32)) &&& (1 : Int32)) &&& (1 : Int32))), .val (.int (Int32.ofNat x133_CG))] [(.int (if (Int32.ofNat x133_CG) = (0 : Int32) then (1 : Int32) else (0 : Int32))), (.int (own_emp (Int32.ofNat x133_CG))), (.int ((((own_emp (Int32.ofNat 0)) &&& (1 : Int32)) &&& (1 : Int32)) &&& (1 : Int32)))])) _
      refine XS.icmpNo X135.here hx rfl (hb hby at_161) rfl (teq (show (own_emp (Int32.ofNat x133_CG)) = (if (Int32.ofNat x133_CG) = (0 : Int32) then (1 : Int32) else (0 : Int32)) from rfl)).2 ?_
      show Steps p.tables e below (T135.setTop (mkF m 164 #[.val (.int P0), .val (.int P1), .val (.ref b101), .val (.int ((((own_emp (Int32.ofNat 0)) &&& (1 : Int32)) &&& (1 : Int32)) &&& (1 : Int32))), .val (.int (Int32.ofNat x133_CG))] [(.int ((((own_emp (Int32.ofNat 0)) &&& (1 : Int32)) &&& (1 : Int32)) &&& (1 : Int32)))])) _
      refine XS.iconst X135.here hx rfl (hb hby at_164) ?_
      show Steps p.tables e below (T135.setTop (mkF m 165 #[.val (.int P0), .val (.int P1), .val (.ref b101), .val (.int ((((own_emp (Int32.ofNat 0)) &&& (1 : Int32)) &&& (1 : Int32)) &&& (1 : Int32))), .val (.int (Int32.ofNat x133_CG))] [(.int (1 : Int32)), (.int ((((own_emp (Int32.ofNat 0)) &&& (1 : Int32)) &&& (1 : Int32)) &&& (1 : Int32)))])) _
      refine XS.goto X135.here hx rfl (pc0 := 165) (pc' := 169) rfl (hb hby at_165) (by decide) (by decide) ?_
      show Steps p.tables e below (T135.setTop (mkF m 169 #[.val (.int P0), .val (.int P1), .val (.ref b101), .val (.int ((((own_emp (Int32.ofNat 0)) &&& (1 : Int32)) &&& (1 : Int32)) &&& (1 : Int32))), .val (.int (Int32.ofNat x133_CG))] [(.int (1 : Int32)), (.int ((((own_emp (Int32.ofNat 0)) &&& (1 : Int32)) &&& (1 : Int32)) &&& (1 : Int32)))])) _
      refine XS.iand X135.here hx rfl (hb hby at_169) rfl ?_
      show Steps p.tables e below (T135.setTop (mkF m 170 #[.val (.int P0), .val (.int P1), .val (.ref b101), .val (.int ((((own_emp (Int32.ofNat 0)) &&& (1 : Int32)) &&& (1 : Int32)) &&& (1 : Int32))), .val (.int (Int32.ofNat x133_CG))] [(.int (((((own_emp (Int32.ofNat 0)) &&& (1 : Int32)) &&& (1 : Int32)) &&& (1 : Int32)) &&& (1 : Int32)))])) _
      refine XS.istoreN X135.here hx rfl (hb hby at_170) rfl (l' := #[.val (.int P0), .val (.int P1), .val (.ref b101), .val (.int (((((own_emp (Int32.ofNat 0)) &&& (1 : Int32)) &&& (1 : Int32)) &&& (1 : Int32)) &&& (1 : Int32))), .val (.int (Int32.ofNat x133_CG))]) rfl ?_
      show Steps p.tables e below (T135.setTop (mkF m 171 #[.val (.int P0), .val (.int P1), .val (.ref b101), .val (.int (((((own_emp (Int32.ofNat 0)) &&& (1 : Int32)) &&& (1 : Int32)) &&& (1 : Int32)) &&& (1 : Int32))), .val (.int (Int32.ofNat x133_CG))] [])) _
      refine XS.iloadN X135.here hx rfl (hb hby at_171) rfl ?_
      exact kt)
  obtain ⟨fs, hr, hrun, hended, hW, hsame⟩ := X135.leave (v := some (.int (nar .boolean (((((own_emp (Int32.ofNat 0)) &&& (1 : Int32)) &&& (1 : Int32)) &&& (1 : Int32)) &&& (1 : Int32))))) (fun h => by rw [Bd.returns] at h; cases h)
  refine ⟨_, _, pre137 _ ?_, hrun, hended, _, _, rfl, ?_, ⟨_, rfl⟩, hW, hsame.mono (by decide) (by decide)⟩
  · show Steps p.tables e below (T135.setTop (mkF m 172 #[.val (.int P0), .val (.int P1), .val (.ref b101), .val (.int (((((own_emp (Int32.ofNat 0)) &&& (1 : Int32)) &&& (1 : Int32)) &&& (1 : Int32)) &&& (1 : Int32))), .val (.int (Int32.ofNat x133_CG))] [(.int (((((own_emp (Int32.ofNat 0)) &&& (1 : Int32)) &&& (1 : Int32)) &&& (1 : Int32)) &&& (1 : Int32)))])) _
    exact retN X135 hx (t := .boolean) Bd.returns (by simp) (hb hby at_172) hr
  · show Q0 Z P0 P1 U0 MO MA ML U1 h0 n0 _ T135.heap _
    rw [K135]
    exact ⟨(congrArg (fun z => some (Value.int z)) (show (nar .boolean (((((own_emp (Int32.ofNat 0)) &&& (1 : Int32)) &&& (1 : Int32)) &&& (1 : Int32)) &&& (1 : Int32))) = (1 : Int32) from by decide)), N135⟩
set_option maxRecDepth 65536 in
set_option maxHeartbeats 40000000 in
theorem comes_1 {Post : Tables → Env → Array Value → State → Outcome → State → Prop} (hpost : ∀ tb e args s v u, (limb_1_1.after args s (.returned v) u = true ∧ limb_1_2.after args s (.returned v) u = true ∧ True) → FrameEnd s (.returned v) u (Jvm.fieldLocs frame_1_writes args s ++ Jvm.arrayLocs frame_1_arrays args s ++ Jvm.staticLocs frame_1_statics s) 32 192 → Post tb e args s (.returned v) u) :
    ArmFor flags0 classFile x code maxLocals ret World_1 tables_1 room_1 Calls_1 rest_1 Pre_1 Post := by
  intro l hfl _ _ p e ha hc hk s m args below hf hA hF happ hP
  obtain ⟨hcalls, hrest, hpre⟩ := hP
  obtain ⟨-, -, -, hnamed, -, -, -, hat⟩ := (Spec.applies_iff hf).mp happ
  obtain ⟨hg, hn⟩ := and_e (Cond.before_iff.mp (show (Jvm.Cond.and given_1 narrow_1).before args s = true from hpre))
  obtain ⟨gv1, gv2⟩ := and_e hg
  obtain ⟨gv3, gv4⟩ := and_e gv2
  obtain ⟨w0, w1, rfl⟩ : ∃ w0 w1 : Value, args = #[w0, w1] := by
    have hs : args.size = 2 := by simpa [Cond.value, given_1] using gv1
    obtain ⟨L⟩ := args
    match L, hs with
    | [w0, w1], _ => exact ⟨w0, w1, rfl⟩
  have hw := fun d (hd : d ∈ tables_1) => atoms_spec (ws := Jvm.Cond.code x code maxLocals ret :: tables_1) hat d (List.mem_cons_of_mem _ hd)
  have hfit : Fit s := fun {y c} hc i hi => by
    obtain ⟨ha, rfl⟩ := Array.getElem?_eq_some_iff.mp hc
    have q := List.all_eq_true.mp ((Array.all_eq_true_iff_forall_mem.mp hF) _ (Array.getElem_mem ha)) i (List.mem_range.mpr hi)
    simpa [Array.getElem?_eq_getElem hi] using q
  obtain ⟨hsets, hown0⟩ := atoms_of _ (rest_1_c_eq ▸ (show rest_1_c.before _ s = true from hrest))
  have hr0 := Cond.before_iff.mp hown0
  obtain ⟨i0, ei0⟩ := is_v gv3
  obtain rfl : w0 = (.int i0) := Option.some.inj ei0
  obtain ⟨i1, ei1⟩ := is_v gv4
  obtain rfl : w1 = (.int i1) := Option.some.inj ei1
  obtain ⟨u0, ev0⟩ := arr_v (Cond.before_iff.mp (hsets _ (List.mem_of_getElem? (i := 4) rfl)))
  obtain ⟨u1, ev1⟩ := arr_v (Cond.before_iff.mp (hsets _ (List.mem_of_getElem? (i := 11) rfl)))
  obtain ⟨m0, hm0⟩ := own_Mi.of (show MirrorMade s "[Ljava/lang/Object;" from hcalls.1)
  obtain ⟨m1, hm1⟩ := own_Mi.of (show MirrorMade s "java/util/ArrayDeque" from hcalls.2.1)
  obtain ⟨m2, hm2⟩ := own_Mi.of (show MirrorMade s "java/util/ArrayList" from hcalls.2.2.1)
  obtain ⟨n, o, h1, h2, h3, _, L, rfl, ⟨rfl, N⟩, hq⟩ := rm0 l s _ hw tables_1 i0 i1 u0 m0 m1 m2 u1 s.heap s.heap.size (Nat.le_refl _) (Sta.start ev0 (Or.inr ⟨(hw _ (List.mem_of_getElem? (i := 44) rfl)), (hsets _ (List.mem_of_getElem? (i := 2) rfl))⟩)) (Sta.start (own_sint (Cond.before_iff.mp (hsets _ (List.mem_of_getElem? (i := 3) rfl)))) (Or.inr ⟨(hw _ (List.mem_of_getElem? (i := 44) rfl)), (hsets _ (List.mem_of_getElem? (i := 0) rfl))⟩)) (own_Cac.start ev0 (hsets _ (List.mem_of_getElem? (i := 4) rfl)) (hsets _ (List.mem_of_getElem? (i := 6) rfl)) (hsets _ (List.mem_of_getElem? (i := 7) rfl))) (Sta.start ev1 (Or.inr ⟨(hw _ (List.mem_of_getElem? (i := 102) rfl)), (hsets _ (List.mem_of_getElem? (i := 8) rfl))⟩)) hm0 hm1 hm2 p e ha hc hk s m _ below hf ((Spec.applies_iff_loose hf).mp happ).1 ⟨rfl, State.Warmed39.refl s, rfl⟩ trivial
  refine ⟨n, _, h1, h2, h3, hpost _ _ _ _ _ _ ⟨Cond.after_iff.mpr rfl, Cond.after_iff.mpr (eq_i res_at (Term.int_eval (1)) rfl), trivial⟩ ⟨hq.1, hq.2.1, (hq.2.2.sift fun y hy => Or.inr (N y hy)).mono (by decide) (by decide)⟩⟩
theorem main_1_1 : Claimed_1_1 := comes_1 fun _ _ _ _ _ _ h hF => ⟨h.1, hF⟩
theorem main_1_2 : Claimed_1_2 := comes_1 fun _ _ _ _ _ _ h hF => ⟨h.2.1, hF⟩
end Jvm.Pilot.@@N@@
namespace Jvm.Pilot.@@N@@
open Jvm Jvm.ClassFile Sem Op Lib Jvm.Free Jvm.Stand Jvm.Pilot.@@N@@.Jvm.D
/-! MADE BY PROGRAM (witnessworld.py) out of the Statement's table words and the real class files: 32 classes; the members and pool entries that the words name. The judged class is class 1, her method 1. -/
namespace start1
open Jvm.ClassFile
def u (s : String) : CpInfo := .utf8 (stringToUtf16 s)
/-- a pool by its gaps: so many unusable entries, then the entry; so many at the end -/
def gap : Nat → List CpInfo → List CpInfo
  | 0, r => r
  | n + 1, r => .unusable :: gap n r
def poolList (es : List (Nat × CpInfo)) (last : Nat) : List CpInfo := es.foldr (fun e r => gap e.1 (e.2 :: r)) (gap last [])
def pool (es : List (Nat × CpInfo)) (last : Nat) : Array CpInfo := ⟨poolList es last⟩
def fileOf (pool : Array CpInfo) (this : Nat) (attrs : Array Attribute := #[]) (ms : Array MethodInfo := #[]) (fl : Nat := 33) (sup : Nat := 0) (ifs : Array Nat := #[]) (fds : Array FieldInfo := #[]) : ClassFile where
  minorVersion := 0
  majorVersion := 65
  constantPool := pool
  accessFlags := fl
  thisClass := this
  superClass := sup
  interfaces := ifs
  fields := fds
  methods := ms
  attributes := attrs
def plain (name : String) (sup : Option ClassId) : Class where
  name := name
  kind := .ordinary
  loader := none
  accessFlags := 33
  super := sup
  interfaces := #[]
  cf := none
  fields := #[]
  methods := #[]
  instanceTypes := #[]
  staticTypes := #[]
  resolved := #[]
  callSites := []
  init := .initialized
  statics := none
  mirror := none

def pool0 : Array CpInfo := pool [(5, u "<init>"), (0, u "()V"), (1, .class_ 10), (1, u "java/lang/Object"), (0, u "getClass"), (0, u "()Ljava/lang/Class;")] 111

def k0c0 : Code := { maxStack := 0, maxLocals := 1, code := object_method_1_code, exceptionTable := #[], attributes := #[] }
def k0m0 : Method := { name := "<init>", desc := "()V", sig := { parameters := [], returnType := none }, accessFlags := 1, code := some k0c0 }
def k0m1 : Method := { name := "getClass", desc := "()Ljava/lang/Class;", sig := { parameters := [], returnType := some (.object "java/lang/Class") }, accessFlags := 273, code := none }
/-- java/lang/Object -/
def k0 : Class := { plain "java/lang/Object" none with
  accessFlags := 33
  interfaces := #[]
  cf := some (fileOf pool0 8 #[] #[{ accessFlags := 1, nameIndex := 5, descriptorIndex := 6, attributes := #[] }, { accessFlags := 273, nameIndex := 11, descriptorIndex := 12, attributes := #[] }] 33 0 #[] #[])
  fields := #[]
  methods := #[k0m0, k0m1]
  instanceTypes := #[]
  staticTypes := #[]
  resolved := Array.replicate 124 none
  statics := none }

def pool1 : Array CpInfo := pool [(2, .class_ 4), (0, .nameAndType 5 6), (0, u "java/lang/Object"), (0, u "<init>"), (0, u "()V"), (0, .class_ 8), (0, u "com/example/brigid/brigid/core/WaitingLine"), (0, .methodref 7 3), (0, .methodref 7 11), (0, .nameAndType 12 13), (0, u "isEmpty"), (0, u "()Z"), (0, .methodref 15 16), (0, .class_ 17), (0, .nameAndType 18 19), (0, u "com/example/brigid/brigid/core/WaitingLineIsEmptyPinLaw"), (0, u "step"), (0, u "(Lcom/example/brigid/brigid/core/WaitingLine;III)I"), (0, .methodref 21 22), (0, .class_ 23), (0, .nameAndType 24 25), (0, u "java/lang/Integer"), (0, u "valueOf"), (0, u "(I)Ljava/lang/Integer;"), (0, .methodref 7 27), (0, .nameAndType 28 29), (0, u "join"), (0, u "(Ljava/lang/Object;)V"), (0, .methodref 7 31), (0, .nameAndType 32 29), (0, u "joinFirst"), (0, .methodref 7 34), (0, .nameAndType 35 36), (0, u "next"), (0, u "()Ljava/lang/Object;"), (0, .methodref 7 38), (0, .nameAndType 39 40), (0, u "clear"), (0, u "()Ljava/util/List;"), (2, u "law"), (0, u "(II)Z")] 5

def k1m0 : Method := { name := "<init>", desc := "()V", sig := { parameters := [], returnType := none }, accessFlags := 1, code := none }
def k1c1 : Code := { maxStack := 4, maxLocals := 5, code := code, exceptionTable := #[], attributes := #[] }
def k1m1 : Method := { name := "law", desc := "(II)Z", sig := { parameters := [.int, .int], returnType := some .boolean }, accessFlags := 9, code := some k1c1 }
def k1c2 : Code := { maxStack := 2, maxLocals := 4, code := method_3_code, exceptionTable := #[], attributes := #[] }
def k1m2 : Method := { name := "step", desc := "(Lcom/example/brigid/brigid/core/WaitingLine;III)I", sig := { parameters := [(.object "com/example/brigid/brigid/core/WaitingLine"), .int, .int, .int], returnType := some .int }, accessFlags := 10, code := some k1c2 }
/-- com/example/brigid/brigid/core/WaitingLineIsEmptyPinLaw -/
def k1 : Class := { plain "com/example/brigid/brigid/core/WaitingLineIsEmptyPinLaw" (some 0) with
  accessFlags := 49
  interfaces := #[]
  cf := some (fileOf pool1 15 #[] #[{ accessFlags := 1, nameIndex := 5, descriptorIndex := 6, attributes := #[] }, { accessFlags := 9, nameIndex := 43, descriptorIndex := 44, attributes := #[] }, { accessFlags := 10, nameIndex := 18, descriptorIndex := 19, attributes := #[] }] 49 2 #[] #[])
  fields := #[]
  methods := #[k1m0, k1m1, k1m2]
  instanceTypes := #[]
  staticTypes := #[]
  resolved := Array.replicate 50 none
  statics := none }

def pool2 : Array CpInfo := pool [(1, .methodref 2 3), (0, .class_ 4), (0, .nameAndType 5 6), (0, u "java/lang/Object"), (0, u "<init>"), (0, u "()V"), (0, .class_ 8), (0, u "java/util/ArrayDeque"), (0, .methodref 7 3), (0, .fieldref 11 12), (0, .class_ 13), (0, .nameAndType 14 15), (0, u "com/example/brigid/brigid/core/WaitingLine"), (0, u "line"), (0, u "Ljava/util/Deque;"), (0, .interfaceMethodref 17 18), (0, .class_ 19), (0, .nameAndType 20 21), (0, u "java/util/Deque"), (0, u "addLast"), (0, u "(Ljava/lang/Object;)V"), (0, .interfaceMethodref 17 23), (0, .nameAndType 24 25), (0, u "size"), (0, u "()I"), (0, .fieldref 11 27), (0, .nameAndType 24 28), (0, u "I"), (0, .interfaceMethodref 17 30), (0, .nameAndType 31 21), (0, u "addFirst"), (0, .interfaceMethodref 17 33), (0, .nameAndType 34 35), (0, u "pollFirst"), (0, u "()Ljava/lang/Object;"), (4, .class_ 41), (0, u "java/util/ArrayList"), (0, .methodref 40 43), (0, .nameAndType 5 44), (0, u "(Ljava/util/Collection;)V"), (0, .interfaceMethodref 17 46), (0, .nameAndType 47 6), (0, u "clear"), (9, u "()Z"), (2, u "next"), (4, u "join"), (1, u "joinFirst"), (3, u "()Ljava/util/List;"), (5, u "isEmpty")] 3

def k2c0 : Code := { maxStack := 3, maxLocals := 1, code := prog_14_method_1_code, exceptionTable := #[], attributes := #[] }
def k2m0 : Method := { name := "<init>", desc := "()V", sig := { parameters := [], returnType := none }, accessFlags := 0, code := some k2c0 }
def k2c1 : Code := { maxStack := 2, maxLocals := 2, code := prog_14_method_2_code, exceptionTable := #[], attributes := #[] }
def k2m1 : Method := { name := "join", desc := "(Ljava/lang/Object;)V", sig := { parameters := [(.object "java/lang/Object")], returnType := none }, accessFlags := 0, code := some k2c1 }
def k2c2 : Code := { maxStack := 2, maxLocals := 2, code := prog_14_method_3_code, exceptionTable := #[], attributes := #[] }
def k2m2 : Method := { name := "joinFirst", desc := "(Ljava/lang/Object;)V", sig := { parameters := [(.object "java/lang/Object")], returnType := none }, accessFlags := 0, code := some k2c2 }
def k2c3 : Code := { maxStack := 2, maxLocals := 2, code := prog_14_method_4_code, exceptionTable := #[], attributes := #[] }
def k2m3 : Method := { name := "next", desc := "()Ljava/lang/Object;", sig := { parameters := [], returnType := some (.object "java/lang/Object") }, accessFlags := 0, code := some k2c3 }
def k2c4 : Code := { maxStack := 3, maxLocals := 2, code := prog_14_method_6_code, exceptionTable := #[], attributes := #[] }
def k2m4 : Method := { name := "clear", desc := "()Ljava/util/List;", sig := { parameters := [], returnType := some (.object "java/util/List") }, accessFlags := 0, code := some k2c4 }
def k2c5 : Code := { maxStack := 1, maxLocals := 1, code := prog_14_method_9_code, exceptionTable := #[], attributes := #[] }
def k2m5 : Method := { name := "isEmpty", desc := "()Z", sig := { parameters := [], returnType := some .boolean }, accessFlags := 0, code := some k2c5 }
/-- com/example/brigid/brigid/core/WaitingLine -/
def k2 : Class := { plain "com/example/brigid/brigid/core/WaitingLine" (some 0) with
  accessFlags := 48
  interfaces := #[]
  cf := some (fileOf pool2 11 #[] #[{ accessFlags := 0, nameIndex := 5, descriptorIndex := 6, attributes := #[] }, { accessFlags := 0, nameIndex := 65, descriptorIndex := 21, attributes := #[] }, { accessFlags := 0, nameIndex := 67, descriptorIndex := 21, attributes := #[] }, { accessFlags := 0, nameIndex := 60, descriptorIndex := 35, attributes := #[] }, { accessFlags := 0, nameIndex := 47, descriptorIndex := 71, attributes := #[] }, { accessFlags := 0, nameIndex := 77, descriptorIndex := 57, attributes := #[] }] 48 2 #[] #[{ accessFlags := 18, nameIndex := 14, descriptorIndex := 15, attributes := #[] }, { accessFlags := 66, nameIndex := 24, descriptorIndex := 28, attributes := #[] }])
  fields := #[{ name := "line", type := (.object "java/util/Deque"), accessFlags := 18, slot := 0, constantValue := 0 }, { name := "size", type := .int, accessFlags := 66, slot := 1, constantValue := 0 }]
  methods := #[k2m0, k2m1, k2m2, k2m3, k2m4, k2m5]
  instanceTypes := #[(.object "java/util/Deque"), .int]
  staticTypes := #[]
  resolved := Array.replicate 81 none
  statics := none }

def pool3 : Array CpInfo := pool [(8, .class_ 10), (1, u "java/lang/Iterable"), (24, .class_ 36), (0, u "java/lang/Object")] 25

/-- java/lang/Iterable -/
def k3 : Class := { plain "java/lang/Iterable" (some 0) with
  accessFlags := 1537
  interfaces := #[]
  cf := some (fileOf pool3 8 #[] #[] 1537 35 #[] #[])
  fields := #[]
  methods := #[]
  instanceTypes := #[]
  staticTypes := #[]
  resolved := Array.replicate 62 none
  statics := none }

def pool4 : Array CpInfo := pool [(10, .class_ 12), (1, u "java/util/Collection"), (0, u "toArray"), (30, u "()V"), (15, .class_ 61), (0, u "java/lang/Object"), (0, .class_ 63), (0, u "java/lang/Iterable"), (6, u "()[Ljava/lang/Object;"), (34, u "clear")] 9

def k4m0 : Method := { name := "toArray", desc := "()[Ljava/lang/Object;", sig := { parameters := [], returnType := some (.array (.object "java/lang/Object")) }, accessFlags := 1025, code := none }
def k4m1 : Method := { name := "clear", desc := "()V", sig := { parameters := [], returnType := none }, accessFlags := 1025, code := none }
/-- java/util/Collection -/
def k4 : Class := { plain "java/util/Collection" (some 0) with
  accessFlags := 1537
  interfaces := #[3]
  cf := some (fileOf pool4 10 #[] #[{ accessFlags := 1025, nameIndex := 13, descriptorIndex := 70, attributes := #[] }, { accessFlags := 1025, nameIndex := 105, descriptorIndex := 44, attributes := #[] }] 1537 60 #[62] #[])
  fields := #[]
  methods := #[k4m0, k4m1]
  instanceTypes := #[]
  staticTypes := #[]
  resolved := Array.replicate 115 none
  statics := none }

def pool5 : Array CpInfo := pool [(1, .methodref 2 3), (0, .class_ 4), (0, .nameAndType 5 6), (0, u "java/lang/Object"), (0, u "<init>"), (0, u "()V"), (1, .class_ 10), (1, u "java/util/AbstractCollection"), (66, .class_ 78), (0, u "java/util/Collection")] 81

def k5c0 : Code := { maxStack := 1, maxLocals := 1, code := jdk_22_method_1_code, exceptionTable := #[], attributes := #[] }
def k5m0 : Method := { name := "<init>", desc := "()V", sig := { parameters := [], returnType := none }, accessFlags := 4, code := some k5c0 }
/-- java/util/AbstractCollection -/
def k5 : Class := { plain "java/util/AbstractCollection" (some 0) with
  accessFlags := 1057
  interfaces := #[4]
  cf := some (fileOf pool5 8 #[] #[{ accessFlags := 4, nameIndex := 5, descriptorIndex := 6, attributes := #[] }] 1057 2 #[77] #[])
  fields := #[]
  methods := #[k5m0]
  instanceTypes := #[]
  staticTypes := #[]
  resolved := Array.replicate 160 none
  statics := none }

def pool6 : Array CpInfo := pool [(1, .class_ 2), (0, u "java/util/Queue"), (0, .class_ 4), (0, u "java/lang/Object"), (0, .class_ 6), (0, u "java/util/Collection")] 14

/-- java/util/Queue -/
def k6 : Class := { plain "java/util/Queue" (some 0) with
  accessFlags := 1537
  interfaces := #[4]
  cf := some (fileOf pool6 1 #[] #[] 1537 3 #[5] #[])
  fields := #[]
  methods := #[]
  instanceTypes := #[]
  staticTypes := #[]
  resolved := Array.replicate 21 none
  statics := none }

def pool7 : Array CpInfo := pool [(8, .class_ 10), (1, u "java/util/SequencedCollection"), (15, .class_ 27), (0, u "java/lang/Object"), (0, .class_ 29), (0, u "java/util/Collection")] 27

/-- java/util/SequencedCollection -/
def k7 : Class := { plain "java/util/SequencedCollection" (some 0) with
  accessFlags := 1537
  interfaces := #[4]
  cf := some (fileOf pool7 8 #[] #[] 1537 26 #[28] #[])
  fields := #[]
  methods := #[]
  instanceTypes := #[]
  staticTypes := #[]
  resolved := Array.replicate 57 none
  statics := none }

def pool8 : Array CpInfo := pool [(8, .class_ 10), (1, u "java/util/Deque"), (2, .class_ 14), (0, u "java/lang/Object"), (0, .class_ 16), (0, u "java/util/Queue"), (0, .class_ 18), (0, u "java/util/SequencedCollection"), (0, u "addFirst"), (0, u "(Ljava/lang/Object;)V"), (2, u "addLast"), (5, u "()Ljava/lang/Object;"), (2, u "pollFirst"), (19, u "size"), (0, u "()I")] 16

def k8m0 : Method := { name := "addFirst", desc := "(Ljava/lang/Object;)V", sig := { parameters := [(.object "java/lang/Object")], returnType := none }, accessFlags := 1025, code := none }
def k8m1 : Method := { name := "addLast", desc := "(Ljava/lang/Object;)V", sig := { parameters := [(.object "java/lang/Object")], returnType := none }, accessFlags := 1025, code := none }
def k8m2 : Method := { name := "pollFirst", desc := "()Ljava/lang/Object;", sig := { parameters := [], returnType := some (.object "java/lang/Object") }, accessFlags := 1025, code := none }
def k8m3 : Method := { name := "size", desc := "()I", sig := { parameters := [], returnType := some .int }, accessFlags := 1025, code := none }
/-- java/util/Deque -/
def k8 : Class := { plain "java/util/Deque" (some 0) with
  accessFlags := 1537
  interfaces := #[6, 7]
  cf := some (fileOf pool8 8 #[] #[{ accessFlags := 1025, nameIndex := 19, descriptorIndex := 20, attributes := #[] }, { accessFlags := 1025, nameIndex := 23, descriptorIndex := 20, attributes := #[] }, { accessFlags := 1025, nameIndex := 32, descriptorIndex := 29, attributes := #[] }, { accessFlags := 1025, nameIndex := 52, descriptorIndex := 53, attributes := #[] }] 1537 13 #[15, 17] #[])
  fields := #[]
  methods := #[k8m0, k8m1, k8m2, k8m3]
  instanceTypes := #[]
  staticTypes := #[]
  resolved := Array.replicate 70 none
  statics := none }

def pool9 : Array CpInfo := pool [(1, .class_ 2), (0, u "java/lang/Cloneable"), (0, .class_ 4), (0, u "java/lang/Object")] 2

/-- java/lang/Cloneable -/
def k9 : Class := { plain "java/lang/Cloneable" (some 0) with
  accessFlags := 1537
  interfaces := #[]
  cf := some (fileOf pool9 1 #[] #[] 1537 3 #[] #[])
  fields := #[]
  methods := #[]
  instanceTypes := #[]
  staticTypes := #[]
  resolved := Array.replicate 7 none
  statics := none }

def pool10 : Array CpInfo := pool [(1, .class_ 2), (0, u "java/io/Serializable"), (0, .class_ 4), (0, u "java/lang/Object")] 2

/-- java/io/Serializable -/
def k10 : Class := { plain "java/io/Serializable" (some 0) with
  accessFlags := 1537
  interfaces := #[]
  cf := some (fileOf pool10 1 #[] #[] 1537 3 #[] #[])
  fields := #[]
  methods := #[]
  instanceTypes := #[]
  staticTypes := #[]
  resolved := Array.replicate 7 none
  statics := none }

def pool11 : Array CpInfo := pool [(3, .fieldref 4 5), (0, .class_ 6), (0, .nameAndType 7 8), (0, u "java/util/ArrayDeque"), (0, u "elements"), (0, u "[Ljava/lang/Object;"), (4, u "(II)I"), (1, .class_ 17), (1, u "java/util/Arrays"), (2, .fieldref 4 21), (0, .nameAndType 22 23), (0, u "tail"), (0, u "I"), (0, .fieldref 4 25), (0, .nameAndType 26 23), (0, u "head"), (0, .methodref 28 29), (0, .class_ 30), (0, .nameAndType 31 32), (0, u "java/lang/System"), (0, u "arraycopy"), (0, u "(Ljava/lang/Object;ILjava/lang/Object;II)V"), (6, u "<init>"), (2, .methodref 43 44), (0, .class_ 45), (0, .nameAndType 39 46), (0, u "java/util/AbstractCollection"), (0, u "()V"), (0, .class_ 48), (0, u "java/lang/Object"), (4, u "size"), (0, u "()I"), (13, .methodref 4 69), (0, .nameAndType 70 13), (0, u "dec"), (3, .methodref 4 75), (0, .nameAndType 76 13), (0, u "inc"), (11, u "addFirst"), (0, u "(Ljava/lang/Object;)V"), (2, u "addLast"), (2, u "pollFirst"), (0, u "()Ljava/lang/Object;"), (6, .methodref 4 104), (0, .nameAndType 105 106), (0, u "elementAt"), (0, u "([Ljava/lang/Object;I)Ljava/lang/Object;"), (20, .methodref 4 128), (0, .nameAndType 129 130), (0, u "sub"), (0, u "(III)I"), (0, .class_ 132), (0, u "java/util/ArrayDeque$DeqIterator"), (3, .class_ 137), (0, u "java/util/ArrayDeque$DescendingIterator"), (1, .class_ 140), (0, u "java/util/ArrayDeque$DeqSpliterator"), (40, .methodref 4 182), (0, .nameAndType 183 184), (0, u "circularClear"), (0, u "([Ljava/lang/Object;II)V"), (3, .class_ 8), (0, .methodref 4 190), (0, .nameAndType 191 192), (0, u "toArray"), (0, u "(Ljava/lang/Class;)[Ljava/lang/Object;"), (0, .methodref 15 194), (0, .nameAndType 195 196), (0, u "copyOfRange"), (0, u "([Ljava/lang/Object;IILjava/lang/Class;)[Ljava/lang/Object;"), (81, .class_ 279), (0, u "java/util/Deque"), (0, .class_ 281), (0, u "java/lang/Cloneable"), (0, .class_ 283), (0, u "java/io/Serializable"), (0, u "MAX_ARRAY_SIZE"), (1, u "serialVersionUID"), (0, u "J"), (90, u "clear"), (0, u "()[Ljava/lang/Object;")] 58

def k11c0 : Code := { maxStack := 2, maxLocals := 1, code := jdk_21_method_3_code, exceptionTable := #[], attributes := #[] }
def k11m0 : Method := { name := "<init>", desc := "()V", sig := { parameters := [], returnType := none }, accessFlags := 1, code := some k11c0 }
def k11c1 : Code := { maxStack := 2, maxLocals := 2, code := jdk_21_method_6_code, exceptionTable := #[], attributes := #[] }
def k11m1 : Method := { name := "inc", desc := "(II)I", sig := { parameters := [.int, .int], returnType := some .int }, accessFlags := 24, code := some k11c1 }
def k11c2 : Code := { maxStack := 2, maxLocals := 2, code := jdk_21_method_7_code, exceptionTable := #[], attributes := #[] }
def k11m2 : Method := { name := "dec", desc := "(II)I", sig := { parameters := [.int, .int], returnType := some .int }, accessFlags := 24, code := some k11c2 }
def k11c3 : Code := { maxStack := 2, maxLocals := 3, code := jdk_21_method_9_code, exceptionTable := #[], attributes := #[] }
def k11m3 : Method := { name := "sub", desc := "(III)I", sig := { parameters := [.int, .int, .int], returnType := some .int }, accessFlags := 24, code := some k11c3 }
def k11c4 : Code := { maxStack := 2, maxLocals := 2, code := jdk_21_method_10_code, exceptionTable := #[], attributes := #[] }
def k11m4 : Method := { name := "elementAt", desc := "([Ljava/lang/Object;I)Ljava/lang/Object;", sig := { parameters := [(.array (.object "java/lang/Object")), .int], returnType := some (.object "java/lang/Object") }, accessFlags := 24, code := some k11c4 }
def k11c5 : Code := { maxStack := 4, maxLocals := 3, code := jdk_21_method_12_code, exceptionTable := #[], attributes := #[] }
def k11m5 : Method := { name := "addFirst", desc := "(Ljava/lang/Object;)V", sig := { parameters := [(.object "java/lang/Object")], returnType := none }, accessFlags := 1, code := some k11c5 }
def k11c6 : Code := { maxStack := 4, maxLocals := 3, code := jdk_21_method_13_code, exceptionTable := #[], attributes := #[] }
def k11m6 : Method := { name := "addLast", desc := "(Ljava/lang/Object;)V", sig := { parameters := [(.object "java/lang/Object")], returnType := none }, accessFlags := 1, code := some k11c6 }
def k11c7 : Code := { maxStack := 3, maxLocals := 4, code := jdk_21_method_20_code, exceptionTable := #[], attributes := #[] }
def k11m7 : Method := { name := "pollFirst", desc := "()Ljava/lang/Object;", sig := { parameters := [], returnType := some (.object "java/lang/Object") }, accessFlags := 1, code := some k11c7 }
def k11c8 : Code := { maxStack := 3, maxLocals := 1, code := jdk_21_method_37_code, exceptionTable := #[], attributes := #[] }
def k11m8 : Method := { name := "size", desc := "()I", sig := { parameters := [], returnType := some .int }, accessFlags := 1, code := some k11c8 }
def k11c9 : Code := { maxStack := 4, maxLocals := 1, code := jdk_21_method_53_code, exceptionTable := #[], attributes := #[] }
def k11m9 : Method := { name := "clear", desc := "()V", sig := { parameters := [], returnType := none }, accessFlags := 1, code := some k11c9 }
def k11c10 : Code := { maxStack := 3, maxLocals := 4, code := jdk_21_method_54_code, exceptionTable := #[], attributes := #[] }
def k11m10 : Method := { name := "circularClear", desc := "([Ljava/lang/Object;II)V", sig := { parameters := [(.array (.object "java/lang/Object")), .int, .int], returnType := none }, accessFlags := 10, code := some k11c10 }
def k11c11 : Code := { maxStack := 2, maxLocals := 1, code := jdk_21_method_55_code, exceptionTable := #[], attributes := #[] }
def k11m11 : Method := { name := "toArray", desc := "()[Ljava/lang/Object;", sig := { parameters := [], returnType := some (.array (.object "java/lang/Object")) }, accessFlags := 1, code := some k11c11 }
def k11c12 : Code := { maxStack := 6, maxLocals := 7, code := jdk_21_method_56_code, exceptionTable := #[], attributes := #[] }
def k11m12 : Method := { name := "toArray", desc := "(Ljava/lang/Class;)[Ljava/lang/Object;", sig := { parameters := [(.object "java/lang/Class")], returnType := some (.array (.object "java/lang/Object")) }, accessFlags := 2, code := some k11c12 }
/-- java/util/ArrayDeque -/
def k11 : Class := { plain "java/util/ArrayDeque" (some 5) with
  accessFlags := 33
  interfaces := #[8, 9, 10]
  cf := some (fileOf pool11 4 #[.nestMembers #[139, 136, 131]] #[{ accessFlags := 1, nameIndex := 39, descriptorIndex := 46, attributes := #[] }, { accessFlags := 24, nameIndex := 76, descriptorIndex := 13, attributes := #[] }, { accessFlags := 24, nameIndex := 70, descriptorIndex := 13, attributes := #[] }, { accessFlags := 24, nameIndex := 129, descriptorIndex := 130, attributes := #[] }, { accessFlags := 24, nameIndex := 105, descriptorIndex := 106, attributes := #[] }, { accessFlags := 1, nameIndex := 88, descriptorIndex := 89, attributes := #[] }, { accessFlags := 1, nameIndex := 92, descriptorIndex := 89, attributes := #[] }, { accessFlags := 1, nameIndex := 95, descriptorIndex := 96, attributes := #[] }, { accessFlags := 1, nameIndex := 53, descriptorIndex := 54, attributes := #[] }, { accessFlags := 1, nameIndex := 378, descriptorIndex := 46, attributes := #[] }, { accessFlags := 10, nameIndex := 183, descriptorIndex := 184, attributes := #[] }, { accessFlags := 1, nameIndex := 191, descriptorIndex := 379, attributes := #[] }, { accessFlags := 2, nameIndex := 191, descriptorIndex := 192, attributes := #[] }] 33 43 #[278, 280, 282] #[{ accessFlags := 128, nameIndex := 7, descriptorIndex := 8, attributes := #[] }, { accessFlags := 128, nameIndex := 26, descriptorIndex := 23, attributes := #[] }, { accessFlags := 128, nameIndex := 22, descriptorIndex := 23, attributes := #[] }, { accessFlags := 26, nameIndex := 284, descriptorIndex := 23, attributes := #[] }, { accessFlags := 26, nameIndex := 286, descriptorIndex := 287, attributes := #[] }])
  fields := #[{ name := "elements", type := (.array (.object "java/lang/Object")), accessFlags := 128, slot := 0, constantValue := 0 }, { name := "head", type := .int, accessFlags := 128, slot := 1, constantValue := 0 }, { name := "tail", type := .int, accessFlags := 128, slot := 2, constantValue := 0 }, { name := "MAX_ARRAY_SIZE", type := .int, accessFlags := 26, slot := 0, constantValue := 0 }, { name := "serialVersionUID", type := .long, accessFlags := 26, slot := 1, constantValue := 0 }]
  methods := #[k11m0, k11m1, k11m2, k11m3, k11m4, k11m5, k11m6, k11m7, k11m8, k11m9, k11m10, k11m11, k11m12]
  instanceTypes := #[(.array (.object "java/lang/Object")), .int, .int]
  staticTypes := #[.int, .long]
  resolved := Array.replicate 438 none
  mirror := some 3
  statics := none }

def pool12 : Array CpInfo := pool [(1, .methodref 2 3), (0, .class_ 4), (0, .nameAndType 5 6), (0, u "java/lang/Object"), (0, u "<init>"), (0, u "()V"), (1, .class_ 10), (1, u "java/lang/Number"), (2, .class_ 14), (0, u "java/io/Serializable"), (0, u "serialVersionUID"), (0, u "J")] 20

def k12c0 : Code := { maxStack := 1, maxLocals := 1, code := jdk_18_method_1_code, exceptionTable := #[], attributes := #[] }
def k12m0 : Method := { name := "<init>", desc := "()V", sig := { parameters := [], returnType := none }, accessFlags := 1, code := some k12c0 }
/-- java/lang/Number -/
def k12 : Class := { plain "java/lang/Number" (some 0) with
  accessFlags := 1057
  interfaces := #[10]
  cf := some (fileOf pool12 8 #[] #[{ accessFlags := 1, nameIndex := 5, descriptorIndex := 6, attributes := #[] }] 1057 2 #[13] #[{ accessFlags := 26, nameIndex := 15, descriptorIndex := 16, attributes := #[] }])
  fields := #[{ name := "serialVersionUID", type := .long, accessFlags := 26, slot := 0, constantValue := 0 }]
  methods := #[k12m0]
  instanceTypes := #[]
  staticTypes := #[.long]
  resolved := Array.replicate 37 none
  statics := none }

def pool13 : Array CpInfo := pool [(1, .class_ 2), (0, u "java/lang/Comparable"), (0, .class_ 4), (0, u "java/lang/Object")] 7

/-- java/lang/Comparable -/
def k13 : Class := { plain "java/lang/Comparable" (some 0) with
  accessFlags := 1537
  interfaces := #[]
  cf := some (fileOf pool13 1 #[] #[] 1537 3 #[] #[])
  fields := #[]
  methods := #[]
  instanceTypes := #[]
  staticTypes := #[]
  resolved := Array.replicate 12 none
  statics := none }

def pool14 : Array CpInfo := pool [(1, .class_ 2), (0, u "java/lang/constant/Constable"), (0, .class_ 4), (0, u "java/lang/Object")] 6

/-- java/lang/constant/Constable -/
def k14 : Class := { plain "java/lang/constant/Constable" (some 0) with
  accessFlags := 1537
  interfaces := #[]
  cf := some (fileOf pool14 1 #[] #[] 1537 3 #[] #[])
  fields := #[]
  methods := #[]
  instanceTypes := #[]
  staticTypes := #[]
  resolved := Array.replicate 11 none
  statics := none }

def pool15 : Array CpInfo := pool [(1, .class_ 2), (0, u "java/lang/constant/ConstantDesc"), (0, .class_ 4), (0, u "java/lang/Object")] 32

/-- java/lang/constant/ConstantDesc -/
def k15 : Class := { plain "java/lang/constant/ConstantDesc" (some 0) with
  accessFlags := 1537
  interfaces := #[]
  cf := some (fileOf pool15 1 #[] #[] 1537 3 #[] #[])
  fields := #[]
  methods := #[]
  instanceTypes := #[]
  staticTypes := #[]
  resolved := Array.replicate 37 none
  statics := none }

def pool16 : Array CpInfo := pool [(1, .class_ 2), (0, u "java/lang/Integer"), (16, u "digits"), (0, u "[C"), (46, u "<init>"), (17, u "DigitOnes"), (0, u "[B"), (2, u "DigitTens"), (10, .nameAndType 67 101), (0, u "()V"), (85, u "valueOf"), (0, u "(I)Ljava/lang/Integer;"), (0, .class_ 190), (0, u "java/lang/Integer$IntegerCache"), (0, .fieldref 189 192), (0, .nameAndType 193 194), (0, u "high"), (0, u "I"), (0, .fieldref 189 196), (0, .nameAndType 197 198), (0, u "cache"), (0, u "[Ljava/lang/Integer;"), (0, .methodref 1 200), (0, .nameAndType 67 201), (0, u "(I)V"), (0, .methodref 203 100), (0, .class_ 204), (0, u "java/lang/Number"), (0, .fieldref 1 206), (0, .nameAndType 207 194), (0, u "value"), (94, u "TYPE"), (0, u "Ljava/lang/Class;"), (0, .class_ 305), (0, u "java/lang/Comparable"), (0, .class_ 307), (0, u "java/lang/constant/Constable"), (0, .class_ 309), (0, u "java/lang/constant/ConstantDesc"), (0, u "MIN_VALUE"), (1, u "MAX_VALUE"), (3, u "SIZE"), (1, u "BYTES"), (1, u "serialVersionUID"), (0, u "J")] 131

def k16c0 : Code := { maxStack := 3, maxLocals := 1, code := jdk_33_method_22_code, exceptionTable := #[], attributes := #[] }
def k16m0 : Method := { name := "valueOf", desc := "(I)Ljava/lang/Integer;", sig := { parameters := [.int], returnType := some (.object "java/lang/Integer") }, accessFlags := 9, code := some k16c0 }
def k16c1 : Code := { maxStack := 2, maxLocals := 2, code := jdk_33_method_23_code, exceptionTable := #[], attributes := #[] }
def k16m1 : Method := { name := "<init>", desc := "(I)V", sig := { parameters := [.int], returnType := none }, accessFlags := 1, code := some k16c1 }
/-- java/lang/Integer -/
def k16 : Class := { plain "java/lang/Integer" (some 12) with
  accessFlags := 49
  interfaces := #[13, 14, 15]
  cf := some (fileOf pool16 1 #[.nestMembers #[189]] #[{ accessFlags := 9, nameIndex := 187, descriptorIndex := 188, attributes := #[] }, { accessFlags := 1, nameIndex := 67, descriptorIndex := 201, attributes := #[] }] 49 203 #[304, 306, 308] #[{ accessFlags := 25, nameIndex := 310, descriptorIndex := 194, attributes := #[] }, { accessFlags := 25, nameIndex := 312, descriptorIndex := 194, attributes := #[] }, { accessFlags := 25, nameIndex := 302, descriptorIndex := 303, attributes := #[] }, { accessFlags := 24, nameIndex := 19, descriptorIndex := 20, attributes := #[] }, { accessFlags := 24, nameIndex := 89, descriptorIndex := 86, attributes := #[] }, { accessFlags := 24, nameIndex := 85, descriptorIndex := 86, attributes := #[] }, { accessFlags := 18, nameIndex := 207, descriptorIndex := 194, attributes := #[] }, { accessFlags := 25, nameIndex := 316, descriptorIndex := 194, attributes := #[] }, { accessFlags := 25, nameIndex := 318, descriptorIndex := 194, attributes := #[] }, { accessFlags := 26, nameIndex := 320, descriptorIndex := 321, attributes := #[] }])
  fields := #[{ name := "MIN_VALUE", type := .int, accessFlags := 25, slot := 0, constantValue := 0 }, { name := "MAX_VALUE", type := .int, accessFlags := 25, slot := 1, constantValue := 0 }, { name := "TYPE", type := (.object "java/lang/Class"), accessFlags := 25, slot := 2, constantValue := 0 }, { name := "digits", type := (.array .char), accessFlags := 24, slot := 3, constantValue := 0 }, { name := "DigitTens", type := (.array .byte), accessFlags := 24, slot := 4, constantValue := 0 }, { name := "DigitOnes", type := (.array .byte), accessFlags := 24, slot := 5, constantValue := 0 }, { name := "value", type := .int, accessFlags := 18, slot := 0, constantValue := 0 }, { name := "SIZE", type := .int, accessFlags := 25, slot := 6, constantValue := 0 }, { name := "BYTES", type := .int, accessFlags := 25, slot := 7, constantValue := 0 }, { name := "serialVersionUID", type := .long, accessFlags := 26, slot := 8, constantValue := 0 }]
  methods := #[k16m0, k16m1]
  instanceTypes := #[.int]
  staticTypes := #[.int, .int, (.object "java/lang/Class"), (.array .char), (.array .byte), (.array .byte), .int, .int, .long]
  resolved := Array.replicate 453 none
  statics := none }

def pool17 : Array CpInfo := pool [(2, .class_ 4), (1, u "java/lang/Object"), (0, u "<init>"), (0, u "()V"), (0, .class_ 8), (0, u "java/lang/Integer"), (7, .class_ 18), (1, u "java/lang/Integer$IntegerCache"), (0, u "$assertionsDisabled"), (0, u "Z"), (26, u "high"), (0, u "I"), (8, u "archivedCache"), (0, u "[Ljava/lang/Integer;"), (12, u "cache"), (0, u "low")] 27

def k17m0 : Method := { name := "<init>", desc := "()V", sig := { parameters := [], returnType := none }, accessFlags := 2, code := none }
/-- java/lang/Integer$IntegerCache -/
def k17 : Class := { plain "java/lang/Integer$IntegerCache" (some 0) with
  accessFlags := 48
  interfaces := #[]
  cf := some (fileOf pool17 16 #[.nestHost 7] #[{ accessFlags := 2, nameIndex := 5, descriptorIndex := 6, attributes := #[] }] 48 2 #[] #[{ accessFlags := 24, nameIndex := 72, descriptorIndex := 48, attributes := #[] }, { accessFlags := 24, nameIndex := 47, descriptorIndex := 48, attributes := #[] }, { accessFlags := 24, nameIndex := 71, descriptorIndex := 58, attributes := #[] }, { accessFlags := 8, nameIndex := 57, descriptorIndex := 58, attributes := #[] }, { accessFlags := 4120, nameIndex := 19, descriptorIndex := 20, attributes := #[] }])
  fields := #[{ name := "low", type := .int, accessFlags := 24, slot := 0, constantValue := 0 }, { name := "high", type := .int, accessFlags := 24, slot := 1, constantValue := 0 }, { name := "cache", type := (.array (.object "java/lang/Integer")), accessFlags := 24, slot := 2, constantValue := 0 }, { name := "archivedCache", type := (.array (.object "java/lang/Integer")), accessFlags := 8, slot := 3, constantValue := 0 }, { name := "$assertionsDisabled", type := .boolean, accessFlags := 4120, slot := 4, constantValue := 0 }]
  methods := #[k17m0]
  instanceTypes := #[]
  staticTypes := #[.int, .int, (.array (.object "java/lang/Integer")), (.array (.object "java/lang/Integer")), .boolean]
  resolved := Array.replicate 100 none
  statics := some 0 }

def pool18 : Array CpInfo := pool [(8, .class_ 10), (1, u "java/util/List"), (92, .class_ 104), (0, u "java/lang/Object"), (15, .class_ 121), (0, u "java/util/SequencedCollection")] 129

/-- java/util/List -/
def k18 : Class := { plain "java/util/List" (some 0) with
  accessFlags := 1537
  interfaces := #[7]
  cf := some (fileOf pool18 8 #[] #[] 1537 103 #[120] #[])
  fields := #[]
  methods := #[]
  instanceTypes := #[]
  staticTypes := #[]
  resolved := Array.replicate 251 none
  statics := none }

def pool19 : Array CpInfo := pool [(1, .methodref 2 3), (0, .class_ 4), (0, .nameAndType 5 6), (0, u "java/util/AbstractCollection"), (0, u "<init>"), (0, u "()V"), (0, .fieldref 8 9), (0, .class_ 10), (0, .nameAndType 11 12), (0, u "java/util/AbstractList"), (0, u "modCount"), (0, u "I"), (64, .class_ 78), (0, u "java/util/AbstractList$Itr"), (3, .class_ 83), (0, u "java/util/AbstractList$ListItr"), (9, .class_ 94), (0, u "java/util/AbstractList$RandomAccessSubList"), (3, .class_ 99), (0, u "java/util/AbstractList$SubList"), (33, .class_ 134), (0, u "java/util/List"), (73, .class_ 209), (0, u "java/util/AbstractList$SubList$1"), (0, .class_ 211), (0, u "java/util/AbstractList$RandomAccessSpliterator")] 6

def k19c0 : Code := { maxStack := 2, maxLocals := 1, code := jdk_39_method_1_code, exceptionTable := #[], attributes := #[] }
def k19m0 : Method := { name := "<init>", desc := "()V", sig := { parameters := [], returnType := none }, accessFlags := 4, code := some k19c0 }
/-- java/util/AbstractList -/
def k19 : Class := { plain "java/util/AbstractList" (some 5) with
  accessFlags := 1057
  interfaces := #[18]
  cf := some (fileOf pool19 8 #[.nestMembers #[93, 98, 208, 210, 82, 77]] #[{ accessFlags := 4, nameIndex := 5, descriptorIndex := 6, attributes := #[] }] 1057 2 #[133] #[{ accessFlags := 132, nameIndex := 11, descriptorIndex := 12, attributes := #[] }])
  fields := #[{ name := "modCount", type := .int, accessFlags := 132, slot := 0, constantValue := 0 }]
  methods := #[k19m0]
  instanceTypes := #[.int]
  staticTypes := #[]
  resolved := Array.replicate 218 none
  statics := none }

def pool20 : Array CpInfo := pool [(1, .class_ 2), (0, u "java/util/RandomAccess"), (0, .class_ 4), (0, u "java/lang/Object")] 2

/-- java/util/RandomAccess -/
def k20 : Class := { plain "java/util/RandomAccess" (some 0) with
  accessFlags := 1537
  interfaces := #[]
  cf := some (fileOf pool20 1 #[] #[] 1537 3 #[] #[])
  fields := #[]
  methods := #[]
  instanceTypes := #[]
  staticTypes := #[]
  resolved := Array.replicate 7 none
  statics := none }

def pool21 : Array CpInfo := pool [(1, .methodref 2 3), (0, .class_ 4), (0, .nameAndType 5 6), (0, u "java/util/AbstractList"), (0, u "<init>"), (0, u "()V"), (2, .fieldref 10 11), (0, .class_ 12), (0, .nameAndType 13 14), (0, u "java/util/ArrayList"), (0, u "elementData"), (0, u "[Ljava/lang/Object;"), (0, .fieldref 10 16), (0, .nameAndType 17 14), (0, u "EMPTY_ELEMENTDATA"), (23, u "DEFAULTCAPACITY_EMPTY_ELEMENTDATA"), (0, .interfaceMethodref 43 44), (0, .class_ 45), (0, .nameAndType 46 47), (0, u "java/util/Collection"), (0, u "toArray"), (0, u "()[Ljava/lang/Object;"), (0, .fieldref 10 49), (0, .nameAndType 50 51), (0, u "size"), (0, u "I"), (0, .interfaceMethodref 43 53), (0, .nameAndType 54 55), (0, u "getClass"), (0, u "()Ljava/lang/Class;"), (0, .class_ 14), (0, .methodref 58 59), (0, .class_ 60), (0, .nameAndType 61 62), (0, u "java/util/Arrays"), (0, u "copyOf"), (0, u "([Ljava/lang/Object;ILjava/lang/Class;)[Ljava/lang/Object;"), (85, .class_ 149), (0, u "java/util/List"), (112, .class_ 263), (0, u "java/util/ArrayList$ListItr"), (3, .class_ 268), (0, u "java/util/ArrayList$Itr"), (7, .class_ 277), (0, u "java/util/ArrayList$SubList"), (12, .class_ 291), (0, u "java/util/ArrayList$ArrayListSpliterator"), (37, .class_ 330), (0, u "java/util/RandomAccess"), (0, .class_ 332), (0, u "java/lang/Cloneable"), (0, .class_ 334), (0, u "java/io/Serializable"), (0, u "serialVersionUID"), (0, u "J"), (3, u "DEFAULT_CAPACITY"), (10, u "(Ljava/util/Collection;)V"), (148, .class_ 501), (0, u "java/util/ArrayList$SubList$2"), (0, .class_ 503), (0, u "java/util/ArrayList$SubList$1")] 5

def k21m0 : Method := { name := "<init>", desc := "()V", sig := { parameters := [], returnType := none }, accessFlags := 1, code := none }
def k21c1 : Code := { maxStack := 4, maxLocals := 3, code := jdk_38_method_3_code, exceptionTable := #[], attributes := #[] }
def k21m1 : Method := { name := "<init>", desc := "(Ljava/util/Collection;)V", sig := { parameters := [(.object "java/util/Collection")], returnType := none }, accessFlags := 1, code := some k21c1 }
/-- java/util/ArrayList -/
def k21 : Class := { plain "java/util/ArrayList" (some 19) with
  accessFlags := 33
  interfaces := #[18, 20, 9, 10]
  cf := some (fileOf pool21 10 #[.nestMembers #[290, 276, 500, 502, 262, 267]] #[{ accessFlags := 1, nameIndex := 5, descriptorIndex := 6, attributes := #[] }, { accessFlags := 1, nameIndex := 5, descriptorIndex := 351, attributes := #[] }] 33 2 #[148, 329, 331, 333] #[{ accessFlags := 26, nameIndex := 335, descriptorIndex := 336, attributes := #[] }, { accessFlags := 26, nameIndex := 340, descriptorIndex := 51, attributes := #[] }, { accessFlags := 26, nameIndex := 17, descriptorIndex := 14, attributes := #[] }, { accessFlags := 26, nameIndex := 41, descriptorIndex := 14, attributes := #[] }, { accessFlags := 128, nameIndex := 13, descriptorIndex := 14, attributes := #[] }, { accessFlags := 2, nameIndex := 50, descriptorIndex := 51, attributes := #[] }])
  fields := #[{ name := "serialVersionUID", type := .long, accessFlags := 26, slot := 0, constantValue := 0 }, { name := "DEFAULT_CAPACITY", type := .int, accessFlags := 26, slot := 1, constantValue := 0 }, { name := "EMPTY_ELEMENTDATA", type := (.array (.object "java/lang/Object")), accessFlags := 26, slot := 2, constantValue := 0 }, { name := "DEFAULTCAPACITY_EMPTY_ELEMENTDATA", type := (.array (.object "java/lang/Object")), accessFlags := 26, slot := 3, constantValue := 0 }, { name := "elementData", type := (.array (.object "java/lang/Object")), accessFlags := 128, slot := 1, constantValue := 0 }, { name := "size", type := .int, accessFlags := 2, slot := 2, constantValue := 0 }]
  methods := #[k21m0, k21m1]
  instanceTypes := #[.int, (.array (.object "java/lang/Object")), .int]
  staticTypes := #[.long, .int, (.array (.object "java/lang/Object")), (.array (.object "java/lang/Object"))]
  resolved := Array.replicate 509 none
  mirror := some 4
  statics := some 1 }

def pool22 : Array CpInfo := pool [(2, .class_ 4), (1, u "java/lang/Object"), (0, u "<init>"), (0, u "()V"), (7, .class_ 16), (1, u "java/util/Arrays"), (57, .class_ 76), (1, u "java/util/Arrays$NaturalOrder"), (33, .class_ 111), (0, u "[Ljava/lang/Object;"), (1, .class_ 115), (1, u "java/util/Arrays$LegacyMergeSort"), (1, u "Z"), (21, u "copyOfRange"), (10, .methodref 151 152), (0, .class_ 153), (0, .nameAndType 154 155), (0, u "java/lang/System"), (0, u "arraycopy"), (0, u "(Ljava/lang/Object;ILjava/lang/Object;II)V"), (146, u "copyOf"), (0, u "([Ljava/lang/Object;ILjava/lang/Class;)[Ljava/lang/Object;"), (0, .methodref 305 306), (0, .class_ 307), (0, .nameAndType 308 309), (0, u "java/lang/Math"), (0, u "min"), (0, u "(II)I"), (26, u "([Ljava/lang/Object;IILjava/lang/Class;)[Ljava/lang/Object;"), (38, .class_ 376), (0, u "java/util/Arrays$ArrayList"), (68, u "$assertionsDisabled"), (269, u "MIN_ARRAY_SORT_GRAN"), (0, u "I"), (2, u "INSERTIONSORT_THRESHOLD"), (255, .class_ 976), (0, u "java/util/Arrays$ArrayItr")] 52

def k22m0 : Method := { name := "<init>", desc := "()V", sig := { parameters := [], returnType := none }, accessFlags := 2, code := none }
def k22c1 : Code := { maxStack := 6, maxLocals := 4, code := jdk_65_method_120_code, exceptionTable := #[], attributes := #[] }
def k22m1 : Method := { name := "copyOf", desc := "([Ljava/lang/Object;ILjava/lang/Class;)[Ljava/lang/Object;", sig := { parameters := [(.array (.object "java/lang/Object")), .int, (.object "java/lang/Class")], returnType := some (.array (.object "java/lang/Object")) }, accessFlags := 9, code := some k22c1 }
def k22c2 : Code := { maxStack := 6, maxLocals := 6, code := jdk_65_method_130_code, exceptionTable := #[], attributes := #[] }
def k22m2 : Method := { name := "copyOfRange", desc := "([Ljava/lang/Object;IILjava/lang/Class;)[Ljava/lang/Object;", sig := { parameters := [(.array (.object "java/lang/Object")), .int, .int, (.object "java/lang/Class")], returnType := some (.array (.object "java/lang/Object")) }, accessFlags := 9, code := some k22c2 }
/-- java/util/Arrays -/
def k22 : Class := { plain "java/util/Arrays" (some 0) with
  accessFlags := 49
  interfaces := #[]
  cf := some (fileOf pool22 14 #[.nestMembers #[975, 375, 113, 74]] #[{ accessFlags := 2, nameIndex := 5, descriptorIndex := 6, attributes := #[] }, { accessFlags := 9, nameIndex := 302, descriptorIndex := 303, attributes := #[] }, { accessFlags := 9, nameIndex := 139, descriptorIndex := 336, attributes := #[] }] 49 2 #[] #[{ accessFlags := 26, nameIndex := 715, descriptorIndex := 716, attributes := #[] }, { accessFlags := 26, nameIndex := 719, descriptorIndex := 716, attributes := #[] }, { accessFlags := 4120, nameIndex := 445, descriptorIndex := 117, attributes := #[] }])
  fields := #[{ name := "MIN_ARRAY_SORT_GRAN", type := .int, accessFlags := 26, slot := 0, constantValue := 0 }, { name := "INSERTIONSORT_THRESHOLD", type := .int, accessFlags := 26, slot := 1, constantValue := 0 }, { name := "$assertionsDisabled", type := .boolean, accessFlags := 4120, slot := 2, constantValue := 0 }]
  methods := #[k22m0, k22m1, k22m2]
  instanceTypes := #[]
  staticTypes := #[.int, .int, .boolean]
  resolved := Array.replicate 1029 none
  statics := none }

def pool23 : Array CpInfo := pool [(1, .class_ 2), (0, u "java/lang/Math"), (1, .class_ 6), (1, u "java/lang/Object"), (0, u "<init>"), (0, u "()V"), (89, .class_ 100), (1, u "java/lang/Math$RandomNumberGeneratorHolder"), (71, u "negativeZeroFloatBits"), (0, u "J"), (2, u "negativeZeroDoubleBits"), (24, u "min"), (43, u "$assertionsDisabled"), (0, u "Z"), (88, u "(II)I"), (2, u "twoToTheDoubleScaleDown"), (0, u "D"), (4, u "twoToTheDoubleScaleUp"), (9, u "E"), (3, u "PI"), (2, u "TAU"), (2, u "DEGREES_TO_RADIANS"), (0, u "RADIANS_TO_DEGREES")] 94

def k23m0 : Method := { name := "<init>", desc := "()V", sig := { parameters := [], returnType := none }, accessFlags := 2, code := none }
def k23c1 : Code := { maxStack := 2, maxLocals := 2, code := jdk_29_method_69_code, exceptionTable := #[], attributes := #[] }
def k23m1 : Method := { name := "min", desc := "(II)I", sig := { parameters := [.int, .int], returnType := some .int }, accessFlags := 9, code := some k23c1 }
/-- java/lang/Math -/
def k23 : Class := { plain "java/lang/Math" (some 0) with
  accessFlags := 49
  interfaces := #[]
  cf := some (fileOf pool23 1 #[.nestMembers #[98]] #[{ accessFlags := 2, nameIndex := 7, descriptorIndex := 8, attributes := #[] }, { accessFlags := 9, nameIndex := 201, descriptorIndex := 335, attributes := #[] }] 49 4 #[] #[{ accessFlags := 25, nameIndex := 354, descriptorIndex := 339, attributes := #[] }, { accessFlags := 25, nameIndex := 358, descriptorIndex := 339, attributes := #[] }, { accessFlags := 25, nameIndex := 361, descriptorIndex := 339, attributes := #[] }, { accessFlags := 26, nameIndex := 364, descriptorIndex := 339, attributes := #[] }, { accessFlags := 26, nameIndex := 365, descriptorIndex := 339, attributes := #[] }, { accessFlags := 26, nameIndex := 172, descriptorIndex := 173, attributes := #[] }, { accessFlags := 26, nameIndex := 176, descriptorIndex := 173, attributes := #[] }, { accessFlags := 8, nameIndex := 344, descriptorIndex := 339, attributes := #[] }, { accessFlags := 8, nameIndex := 338, descriptorIndex := 339, attributes := #[] }, { accessFlags := 4120, nameIndex := 245, descriptorIndex := 246, attributes := #[] }])
  fields := #[{ name := "E", type := .double, accessFlags := 25, slot := 0, constantValue := 0 }, { name := "PI", type := .double, accessFlags := 25, slot := 1, constantValue := 0 }, { name := "TAU", type := .double, accessFlags := 25, slot := 2, constantValue := 0 }, { name := "DEGREES_TO_RADIANS", type := .double, accessFlags := 26, slot := 3, constantValue := 0 }, { name := "RADIANS_TO_DEGREES", type := .double, accessFlags := 26, slot := 4, constantValue := 0 }, { name := "negativeZeroFloatBits", type := .long, accessFlags := 26, slot := 5, constantValue := 0 }, { name := "negativeZeroDoubleBits", type := .long, accessFlags := 26, slot := 6, constantValue := 0 }, { name := "twoToTheDoubleScaleUp", type := .double, accessFlags := 8, slot := 7, constantValue := 0 }, { name := "twoToTheDoubleScaleDown", type := .double, accessFlags := 8, slot := 8, constantValue := 0 }, { name := "$assertionsDisabled", type := .boolean, accessFlags := 4120, slot := 9, constantValue := 0 }]
  methods := #[k23m0, k23m1]
  instanceTypes := #[]
  staticTypes := #[.double, .double, .double, .double, .double, .long, .long, .double, .double, .boolean]
  resolved := Array.replicate 460 none
  statics := none }

def pool24 : Array CpInfo := pool [(2, .class_ 4), (1, u "java/lang/Object"), (0, u "<init>"), (0, u "()V"), (1, .class_ 10), (1, u "java/lang/System"), (0, u "allowSecurityManager"), (0, u "I"), (16, u "cons"), (0, u "Ljava/io/Console;"), (77, .class_ 110), (1, u "java/lang/System$CallersHolder"), (43, u "initialErrStream"), (0, u "Ljava/io/PrintStream;"), (19, u "security"), (0, u "Ljava/lang/SecurityManager;"), (31, .class_ 209), (0, u "java/lang/System$1"), (7, u "props"), (0, u "Ljava/util/Properties;"), (2, u "lineSeparator"), (0, u "Ljava/lang/String;"), (96, .class_ 321), (1, u "java/lang/System$LoggerFinder"), (5, .class_ 328), (0, u "java/lang/System$Logger"), (67, u "err"), (2, u "out"), (91, u "notSupportedJnuEncoding"), (15, u "in"), (17, u "initialIn"), (0, u "Ljava/io/InputStream;"), (35, u "bootLayer"), (0, u "Ljava/lang/ModuleLayer;"), (99, .class_ 664), (0, u "java/lang/System$2"), (9, u "NEVER"), (2, u "MAYBE"), (49, u "arraycopy"), (0, u "(Ljava/lang/Object;ILjava/lang/Object;II)V"), (72, .class_ 802), (0, u "java/lang/System$Logger$Level")] 31

def k24m0 : Method := { name := "<init>", desc := "()V", sig := { parameters := [], returnType := none }, accessFlags := 2, code := none }
def k24m1 : Method := { name := "arraycopy", desc := "(Ljava/lang/Object;ILjava/lang/Object;II)V", sig := { parameters := [(.object "java/lang/Object"), .int, (.object "java/lang/Object"), .int, .int], returnType := none }, accessFlags := 265, code := none }
/-- java/lang/System -/
def k24 : Class := { plain "java/lang/System" (some 0) with
  accessFlags := 49
  interfaces := #[]
  cf := some (fileOf pool24 8 #[.nestMembers #[319, 327, 801, 108, 663, 208]] #[{ accessFlags := 2, nameIndex := 5, descriptorIndex := 6, attributes := #[] }, { accessFlags := 265, nameIndex := 727, descriptorIndex := 728, attributes := #[] }] 49 2 #[] #[{ accessFlags := 25, nameIndex := 507, descriptorIndex := 526, attributes := #[] }, { accessFlags := 25, nameIndex := 399, descriptorIndex := 155, attributes := #[] }, { accessFlags := 25, nameIndex := 396, descriptorIndex := 155, attributes := #[] }, { accessFlags := 10, nameIndex := 525, descriptorIndex := 526, attributes := #[] }, { accessFlags := 26, nameIndex := 674, descriptorIndex := 12, attributes := #[] }, { accessFlags := 26, nameIndex := 677, descriptorIndex := 12, attributes := #[] }, { accessFlags := 10, nameIndex := 11, descriptorIndex := 12, attributes := #[] }, { accessFlags := 74, nameIndex := 175, descriptorIndex := 176, attributes := #[] }, { accessFlags := 10, nameIndex := 491, descriptorIndex := 222, attributes := #[] }, { accessFlags := 74, nameIndex := 29, descriptorIndex := 30, attributes := #[] }, { accessFlags := 74, nameIndex := 154, descriptorIndex := 155, attributes := #[] }, { accessFlags := 10, nameIndex := 217, descriptorIndex := 218, attributes := #[] }, { accessFlags := 10, nameIndex := 221, descriptorIndex := 222, attributes := #[] }, { accessFlags := 8, nameIndex := 562, descriptorIndex := 563, attributes := #[] }])
  fields := #[{ name := "in", type := (.object "java/io/InputStream"), accessFlags := 25, slot := 0, constantValue := 0 }, { name := "out", type := (.object "java/io/PrintStream"), accessFlags := 25, slot := 1, constantValue := 0 }, { name := "err", type := (.object "java/io/PrintStream"), accessFlags := 25, slot := 2, constantValue := 0 }, { name := "initialIn", type := (.object "java/io/InputStream"), accessFlags := 10, slot := 3, constantValue := 0 }, { name := "NEVER", type := .int, accessFlags := 26, slot := 4, constantValue := 0 }, { name := "MAYBE", type := .int, accessFlags := 26, slot := 5, constantValue := 0 }, { name := "allowSecurityManager", type := .int, accessFlags := 10, slot := 6, constantValue := 0 }, { name := "security", type := (.object "java/lang/SecurityManager"), accessFlags := 74, slot := 7, constantValue := 0 }, { name := "notSupportedJnuEncoding", type := (.object "java/lang/String"), accessFlags := 10, slot := 8, constantValue := 0 }, { name := "cons", type := (.object "java/io/Console"), accessFlags := 74, slot := 9, constantValue := 0 }, { name := "initialErrStream", type := (.object "java/io/PrintStream"), accessFlags := 74, slot := 10, constantValue := 0 }, { name := "props", type := (.object "java/util/Properties"), accessFlags := 10, slot := 11, constantValue := 0 }, { name := "lineSeparator", type := (.object "java/lang/String"), accessFlags := 10, slot := 12, constantValue := 0 }, { name := "bootLayer", type := (.object "java/lang/ModuleLayer"), accessFlags := 8, slot := 13, constantValue := 0 }]
  methods := #[k24m0, k24m1]
  instanceTypes := #[]
  staticTypes := #[(.object "java/io/InputStream"), (.object "java/io/PrintStream"), (.object "java/io/PrintStream"), (.object "java/io/InputStream"), .int, .int, .int, (.object "java/lang/SecurityManager"), (.object "java/lang/String"), (.object "java/io/Console"), (.object "java/io/PrintStream"), (.object "java/util/Properties"), (.object "java/lang/String"), (.object "java/lang/ModuleLayer")]
  resolved := Array.replicate 834 none
  statics := none }

def pool25 : Array CpInfo := pool [(1, u "java/lang/Class"), (0, .class_ 1), (0, u "java/lang/Object"), (0, .class_ 3)] 0

/-- java/lang/Class -/
def k25 : Class := { plain "java/lang/Class" (some 0) with
  accessFlags := 49
  interfaces := #[]
  cf := some (fileOf pool25 2 #[] #[] 49 4 #[] #[])
  fields := #[]
  methods := #[]
  instanceTypes := #[]
  staticTypes := #[]
  resolved := Array.replicate 5 none
  statics := none }

/-- the primitive byte -/
def k26 : Class := { plain "byte" none with kind := .primitive 'B', accessFlags := 0x411 }
/-- [B -/
def k27 : Class := { plain "[B" (some 0) with kind := .array 26 .byte, interfaces := #[9, 10], accessFlags := 1041 }

/-- the primitive int -/
def k28 : Class := { plain "int" none with kind := .primitive 'I', accessFlags := 0x411 }
/-- [I -/
def k29 : Class := { plain "[I" (some 0) with kind := .array 28 .int, interfaces := #[9, 10], accessFlags := 1041 }

/-- [Ljava/lang/Integer; -/
def k30 : Class := { plain "[Ljava/lang/Integer;" (some 0) with kind := .array 16 (.object "java/lang/Integer"), interfaces := #[9, 10], accessFlags := 1041 }

/-- [Ljava/lang/Object; -/
def k31 : Class := { plain "[Ljava/lang/Object;" (some 0) with kind := .array 0 (.object "java/lang/Object"), interfaces := #[9, 10], accessFlags := 1041, mirror := some 2 }

def heap : Heap := #[{ cls := 17, slots := #[.int 0, .int 127, .ref 5, .null, .int 0], vm := .statics 17 },
  { cls := 21, slots := #[.long 0, .int 0, .ref 262, .ref 263], vm := .statics 21 },
  { cls := 25, slots := #[], vm := .mirror 31 },
  { cls := 25, slots := #[], vm := .mirror 11 },
  { cls := 25, slots := #[], vm := .mirror 21 },
  { cls := 30, slots := #[.ref 6, .ref 7, .ref 8, .ref 9, .ref 10, .ref 11, .ref 12, .ref 13, .ref 14, .ref 15, .ref 16, .ref 17, .ref 18, .ref 19, .ref 20, .ref 21, .ref 22, .ref 23, .ref 24, .ref 25, .ref 26, .ref 27, .ref 28, .ref 29, .ref 30, .ref 31, .ref 32, .ref 33, .ref 34, .ref 35, .ref 36, .ref 37, .ref 38, .ref 39, .ref 40, .ref 41, .ref 42, .ref 43, .ref 44, .ref 45, .ref 46, .ref 47, .ref 48, .ref 49, .ref 50, .ref 51, .ref 52, .ref 53, .ref 54, .ref 55, .ref 56, .ref 57, .ref 58, .ref 59, .ref 60, .ref 61, .ref 62, .ref 63, .ref 64, .ref 65, .ref 66, .ref 67, .ref 68, .ref 69, .ref 70, .ref 71, .ref 72, .ref 73, .ref 74, .ref 75, .ref 76, .ref 77, .ref 78, .ref 79, .ref 80, .ref 81, .ref 82, .ref 83, .ref 84, .ref 85, .ref 86, .ref 87, .ref 88, .ref 89, .ref 90, .ref 91, .ref 92, .ref 93, .ref 94, .ref 95, .ref 96, .ref 97, .ref 98, .ref 99, .ref 100, .ref 101, .ref 102, .ref 103, .ref 104, .ref 105, .ref 106, .ref 107, .ref 108, .ref 109, .ref 110, .ref 111, .ref 112, .ref 113, .ref 114, .ref 115, .ref 116, .ref 117, .ref 118, .ref 119, .ref 120, .ref 121, .ref 122, .ref 123, .ref 124, .ref 125, .ref 126, .ref 127, .ref 128, .ref 129, .ref 130, .ref 131, .ref 132, .ref 133, .ref 134, .ref 135, .ref 136, .ref 137, .ref 138, .ref 139, .ref 140, .ref 141, .ref 142, .ref 143, .ref 144, .ref 145, .ref 146, .ref 147, .ref 148, .ref 149, .ref 150, .ref 151, .ref 152, .ref 153, .ref 154, .ref 155, .ref 156, .ref 157, .ref 158, .ref 159, .ref 160, .ref 161, .ref 162, .ref 163, .ref 164, .ref 165, .ref 166, .ref 167, .ref 168, .ref 169, .ref 170, .ref 171, .ref 172, .ref 173, .ref 174, .ref 175, .ref 176, .ref 177, .ref 178, .ref 179, .ref 180, .ref 181, .ref 182, .ref 183, .ref 184, .ref 185, .ref 186, .ref 187, .ref 188, .ref 189, .ref 190, .ref 191, .ref 192, .ref 193, .ref 194, .ref 195, .ref 196, .ref 197, .ref 198, .ref 199, .ref 200, .ref 201, .ref 202, .ref 203, .ref 204, .ref 205, .ref 206, .ref 207, .ref 208, .ref 209, .ref 210, .ref 211, .ref 212, .ref 213, .ref 214, .ref 215, .ref 216, .ref 217, .ref 218, .ref 219, .ref 220, .ref 221, .ref 222, .ref 223, .ref 224, .ref 225, .ref 226, .ref 227, .ref 228, .ref 229, .ref 230, .ref 231, .ref 232, .ref 233, .ref 234, .ref 235, .ref 236, .ref 237, .ref 238, .ref 239, .ref 240, .ref 241, .ref 242, .ref 243, .ref 244, .ref 245, .ref 246, .ref 247, .ref 248, .ref 249, .ref 250, .ref 251, .ref 252, .ref 253, .ref 254, .ref 255, .ref 256, .ref 257, .ref 258, .ref 259, .ref 260, .ref 261], vm := .none },
  { cls := 16, slots := #[.int (-128)], vm := .none },
  { cls := 16, slots := #[.int (-127)], vm := .none },
  { cls := 16, slots := #[.int (-126)], vm := .none },
  { cls := 16, slots := #[.int (-125)], vm := .none },
  { cls := 16, slots := #[.int (-124)], vm := .none },
  { cls := 16, slots := #[.int (-123)], vm := .none },
  { cls := 16, slots := #[.int (-122)], vm := .none },
  { cls := 16, slots := #[.int (-121)], vm := .none },
  { cls := 16, slots := #[.int (-120)], vm := .none },
  { cls := 16, slots := #[.int (-119)], vm := .none },
  { cls := 16, slots := #[.int (-118)], vm := .none },
  { cls := 16, slots := #[.int (-117)], vm := .none },
  { cls := 16, slots := #[.int (-116)], vm := .none },
  { cls := 16, slots := #[.int (-115)], vm := .none },
  { cls := 16, slots := #[.int (-114)], vm := .none },
  { cls := 16, slots := #[.int (-113)], vm := .none },
  { cls := 16, slots := #[.int (-112)], vm := .none },
  { cls := 16, slots := #[.int (-111)], vm := .none },
  { cls := 16, slots := #[.int (-110)], vm := .none },
  { cls := 16, slots := #[.int (-109)], vm := .none },
  { cls := 16, slots := #[.int (-108)], vm := .none },
  { cls := 16, slots := #[.int (-107)], vm := .none },
  { cls := 16, slots := #[.int (-106)], vm := .none },
  { cls := 16, slots := #[.int (-105)], vm := .none },
  { cls := 16, slots := #[.int (-104)], vm := .none },
  { cls := 16, slots := #[.int (-103)], vm := .none },
  { cls := 16, slots := #[.int (-102)], vm := .none },
  { cls := 16, slots := #[.int (-101)], vm := .none },
  { cls := 16, slots := #[.int (-100)], vm := .none },
  { cls := 16, slots := #[.int (-99)], vm := .none },
  { cls := 16, slots := #[.int (-98)], vm := .none },
  { cls := 16, slots := #[.int (-97)], vm := .none },
  { cls := 16, slots := #[.int (-96)], vm := .none },
  { cls := 16, slots := #[.int (-95)], vm := .none },
  { cls := 16, slots := #[.int (-94)], vm := .none },
  { cls := 16, slots := #[.int (-93)], vm := .none },
  { cls := 16, slots := #[.int (-92)], vm := .none },
  { cls := 16, slots := #[.int (-91)], vm := .none },
  { cls := 16, slots := #[.int (-90)], vm := .none },
  { cls := 16, slots := #[.int (-89)], vm := .none },
  { cls := 16, slots := #[.int (-88)], vm := .none },
  { cls := 16, slots := #[.int (-87)], vm := .none },
  { cls := 16, slots := #[.int (-86)], vm := .none },
  { cls := 16, slots := #[.int (-85)], vm := .none },
  { cls := 16, slots := #[.int (-84)], vm := .none },
  { cls := 16, slots := #[.int (-83)], vm := .none },
  { cls := 16, slots := #[.int (-82)], vm := .none },
  { cls := 16, slots := #[.int (-81)], vm := .none },
  { cls := 16, slots := #[.int (-80)], vm := .none },
  { cls := 16, slots := #[.int (-79)], vm := .none },
  { cls := 16, slots := #[.int (-78)], vm := .none },
  { cls := 16, slots := #[.int (-77)], vm := .none },
  { cls := 16, slots := #[.int (-76)], vm := .none },
  { cls := 16, slots := #[.int (-75)], vm := .none },
  { cls := 16, slots := #[.int (-74)], vm := .none },
  { cls := 16, slots := #[.int (-73)], vm := .none },
  { cls := 16, slots := #[.int (-72)], vm := .none },
  { cls := 16, slots := #[.int (-71)], vm := .none },
  { cls := 16, slots := #[.int (-70)], vm := .none },
  { cls := 16, slots := #[.int (-69)], vm := .none },
  { cls := 16, slots := #[.int (-68)], vm := .none },
  { cls := 16, slots := #[.int (-67)], vm := .none },
  { cls := 16, slots := #[.int (-66)], vm := .none },
  { cls := 16, slots := #[.int (-65)], vm := .none },
  { cls := 16, slots := #[.int (-64)], vm := .none },
  { cls := 16, slots := #[.int (-63)], vm := .none },
  { cls := 16, slots := #[.int (-62)], vm := .none },
  { cls := 16, slots := #[.int (-61)], vm := .none },
  { cls := 16, slots := #[.int (-60)], vm := .none },
  { cls := 16, slots := #[.int (-59)], vm := .none },
  { cls := 16, slots := #[.int (-58)], vm := .none },
  { cls := 16, slots := #[.int (-57)], vm := .none },
  { cls := 16, slots := #[.int (-56)], vm := .none },
  { cls := 16, slots := #[.int (-55)], vm := .none },
  { cls := 16, slots := #[.int (-54)], vm := .none },
  { cls := 16, slots := #[.int (-53)], vm := .none },
  { cls := 16, slots := #[.int (-52)], vm := .none },
  { cls := 16, slots := #[.int (-51)], vm := .none },
  { cls := 16, slots := #[.int (-50)], vm := .none },
  { cls := 16, slots := #[.int (-49)], vm := .none },
  { cls := 16, slots := #[.int (-48)], vm := .none },
  { cls := 16, slots := #[.int (-47)], vm := .none },
  { cls := 16, slots := #[.int (-46)], vm := .none },
  { cls := 16, slots := #[.int (-45)], vm := .none },
  { cls := 16, slots := #[.int (-44)], vm := .none },
  { cls := 16, slots := #[.int (-43)], vm := .none },
  { cls := 16, slots := #[.int (-42)], vm := .none },
  { cls := 16, slots := #[.int (-41)], vm := .none },
  { cls := 16, slots := #[.int (-40)], vm := .none },
  { cls := 16, slots := #[.int (-39)], vm := .none },
  { cls := 16, slots := #[.int (-38)], vm := .none },
  { cls := 16, slots := #[.int (-37)], vm := .none },
  { cls := 16, slots := #[.int (-36)], vm := .none },
  { cls := 16, slots := #[.int (-35)], vm := .none },
  { cls := 16, slots := #[.int (-34)], vm := .none },
  { cls := 16, slots := #[.int (-33)], vm := .none },
  { cls := 16, slots := #[.int (-32)], vm := .none },
  { cls := 16, slots := #[.int (-31)], vm := .none },
  { cls := 16, slots := #[.int (-30)], vm := .none },
  { cls := 16, slots := #[.int (-29)], vm := .none },
  { cls := 16, slots := #[.int (-28)], vm := .none },
  { cls := 16, slots := #[.int (-27)], vm := .none },
  { cls := 16, slots := #[.int (-26)], vm := .none },
  { cls := 16, slots := #[.int (-25)], vm := .none },
  { cls := 16, slots := #[.int (-24)], vm := .none },
  { cls := 16, slots := #[.int (-23)], vm := .none },
  { cls := 16, slots := #[.int (-22)], vm := .none },
  { cls := 16, slots := #[.int (-21)], vm := .none },
  { cls := 16, slots := #[.int (-20)], vm := .none },
  { cls := 16, slots := #[.int (-19)], vm := .none },
  { cls := 16, slots := #[.int (-18)], vm := .none },
  { cls := 16, slots := #[.int (-17)], vm := .none },
  { cls := 16, slots := #[.int (-16)], vm := .none },
  { cls := 16, slots := #[.int (-15)], vm := .none },
  { cls := 16, slots := #[.int (-14)], vm := .none },
  { cls := 16, slots := #[.int (-13)], vm := .none },
  { cls := 16, slots := #[.int (-12)], vm := .none },
  { cls := 16, slots := #[.int (-11)], vm := .none },
  { cls := 16, slots := #[.int (-10)], vm := .none },
  { cls := 16, slots := #[.int (-9)], vm := .none },
  { cls := 16, slots := #[.int (-8)], vm := .none },
  { cls := 16, slots := #[.int (-7)], vm := .none },
  { cls := 16, slots := #[.int (-6)], vm := .none },
  { cls := 16, slots := #[.int (-5)], vm := .none },
  { cls := 16, slots := #[.int (-4)], vm := .none },
  { cls := 16, slots := #[.int (-3)], vm := .none },
  { cls := 16, slots := #[.int (-2)], vm := .none },
  { cls := 16, slots := #[.int (-1)], vm := .none },
  { cls := 16, slots := #[.int (0)], vm := .none },
  { cls := 16, slots := #[.int (1)], vm := .none },
  { cls := 16, slots := #[.int (2)], vm := .none },
  { cls := 16, slots := #[.int (3)], vm := .none },
  { cls := 16, slots := #[.int (4)], vm := .none },
  { cls := 16, slots := #[.int (5)], vm := .none },
  { cls := 16, slots := #[.int (6)], vm := .none },
  { cls := 16, slots := #[.int (7)], vm := .none },
  { cls := 16, slots := #[.int (8)], vm := .none },
  { cls := 16, slots := #[.int (9)], vm := .none },
  { cls := 16, slots := #[.int (10)], vm := .none },
  { cls := 16, slots := #[.int (11)], vm := .none },
  { cls := 16, slots := #[.int (12)], vm := .none },
  { cls := 16, slots := #[.int (13)], vm := .none },
  { cls := 16, slots := #[.int (14)], vm := .none },
  { cls := 16, slots := #[.int (15)], vm := .none },
  { cls := 16, slots := #[.int (16)], vm := .none },
  { cls := 16, slots := #[.int (17)], vm := .none },
  { cls := 16, slots := #[.int (18)], vm := .none },
  { cls := 16, slots := #[.int (19)], vm := .none },
  { cls := 16, slots := #[.int (20)], vm := .none },
  { cls := 16, slots := #[.int (21)], vm := .none },
  { cls := 16, slots := #[.int (22)], vm := .none },
  { cls := 16, slots := #[.int (23)], vm := .none },
  { cls := 16, slots := #[.int (24)], vm := .none },
  { cls := 16, slots := #[.int (25)], vm := .none },
  { cls := 16, slots := #[.int (26)], vm := .none },
  { cls := 16, slots := #[.int (27)], vm := .none },
  { cls := 16, slots := #[.int (28)], vm := .none },
  { cls := 16, slots := #[.int (29)], vm := .none },
  { cls := 16, slots := #[.int (30)], vm := .none },
  { cls := 16, slots := #[.int (31)], vm := .none },
  { cls := 16, slots := #[.int (32)], vm := .none },
  { cls := 16, slots := #[.int (33)], vm := .none },
  { cls := 16, slots := #[.int (34)], vm := .none },
  { cls := 16, slots := #[.int (35)], vm := .none },
  { cls := 16, slots := #[.int (36)], vm := .none },
  { cls := 16, slots := #[.int (37)], vm := .none },
  { cls := 16, slots := #[.int (38)], vm := .none },
  { cls := 16, slots := #[.int (39)], vm := .none },
  { cls := 16, slots := #[.int (40)], vm := .none },
  { cls := 16, slots := #[.int (41)], vm := .none },
  { cls := 16, slots := #[.int (42)], vm := .none },
  { cls := 16, slots := #[.int (43)], vm := .none },
  { cls := 16, slots := #[.int (44)], vm := .none },
  { cls := 16, slots := #[.int (45)], vm := .none },
  { cls := 16, slots := #[.int (46)], vm := .none },
  { cls := 16, slots := #[.int (47)], vm := .none },
  { cls := 16, slots := #[.int (48)], vm := .none },
  { cls := 16, slots := #[.int (49)], vm := .none },
  { cls := 16, slots := #[.int (50)], vm := .none },
  { cls := 16, slots := #[.int (51)], vm := .none },
  { cls := 16, slots := #[.int (52)], vm := .none },
  { cls := 16, slots := #[.int (53)], vm := .none },
  { cls := 16, slots := #[.int (54)], vm := .none },
  { cls := 16, slots := #[.int (55)], vm := .none },
  { cls := 16, slots := #[.int (56)], vm := .none },
  { cls := 16, slots := #[.int (57)], vm := .none },
  { cls := 16, slots := #[.int (58)], vm := .none },
  { cls := 16, slots := #[.int (59)], vm := .none },
  { cls := 16, slots := #[.int (60)], vm := .none },
  { cls := 16, slots := #[.int (61)], vm := .none },
  { cls := 16, slots := #[.int (62)], vm := .none },
  { cls := 16, slots := #[.int (63)], vm := .none },
  { cls := 16, slots := #[.int (64)], vm := .none },
  { cls := 16, slots := #[.int (65)], vm := .none },
  { cls := 16, slots := #[.int (66)], vm := .none },
  { cls := 16, slots := #[.int (67)], vm := .none },
  { cls := 16, slots := #[.int (68)], vm := .none },
  { cls := 16, slots := #[.int (69)], vm := .none },
  { cls := 16, slots := #[.int (70)], vm := .none },
  { cls := 16, slots := #[.int (71)], vm := .none },
  { cls := 16, slots := #[.int (72)], vm := .none },
  { cls := 16, slots := #[.int (73)], vm := .none },
  { cls := 16, slots := #[.int (74)], vm := .none },
  { cls := 16, slots := #[.int (75)], vm := .none },
  { cls := 16, slots := #[.int (76)], vm := .none },
  { cls := 16, slots := #[.int (77)], vm := .none },
  { cls := 16, slots := #[.int (78)], vm := .none },
  { cls := 16, slots := #[.int (79)], vm := .none },
  { cls := 16, slots := #[.int (80)], vm := .none },
  { cls := 16, slots := #[.int (81)], vm := .none },
  { cls := 16, slots := #[.int (82)], vm := .none },
  { cls := 16, slots := #[.int (83)], vm := .none },
  { cls := 16, slots := #[.int (84)], vm := .none },
  { cls := 16, slots := #[.int (85)], vm := .none },
  { cls := 16, slots := #[.int (86)], vm := .none },
  { cls := 16, slots := #[.int (87)], vm := .none },
  { cls := 16, slots := #[.int (88)], vm := .none },
  { cls := 16, slots := #[.int (89)], vm := .none },
  { cls := 16, slots := #[.int (90)], vm := .none },
  { cls := 16, slots := #[.int (91)], vm := .none },
  { cls := 16, slots := #[.int (92)], vm := .none },
  { cls := 16, slots := #[.int (93)], vm := .none },
  { cls := 16, slots := #[.int (94)], vm := .none },
  { cls := 16, slots := #[.int (95)], vm := .none },
  { cls := 16, slots := #[.int (96)], vm := .none },
  { cls := 16, slots := #[.int (97)], vm := .none },
  { cls := 16, slots := #[.int (98)], vm := .none },
  { cls := 16, slots := #[.int (99)], vm := .none },
  { cls := 16, slots := #[.int (100)], vm := .none },
  { cls := 16, slots := #[.int (101)], vm := .none },
  { cls := 16, slots := #[.int (102)], vm := .none },
  { cls := 16, slots := #[.int (103)], vm := .none },
  { cls := 16, slots := #[.int (104)], vm := .none },
  { cls := 16, slots := #[.int (105)], vm := .none },
  { cls := 16, slots := #[.int (106)], vm := .none },
  { cls := 16, slots := #[.int (107)], vm := .none },
  { cls := 16, slots := #[.int (108)], vm := .none },
  { cls := 16, slots := #[.int (109)], vm := .none },
  { cls := 16, slots := #[.int (110)], vm := .none },
  { cls := 16, slots := #[.int (111)], vm := .none },
  { cls := 16, slots := #[.int (112)], vm := .none },
  { cls := 16, slots := #[.int (113)], vm := .none },
  { cls := 16, slots := #[.int (114)], vm := .none },
  { cls := 16, slots := #[.int (115)], vm := .none },
  { cls := 16, slots := #[.int (116)], vm := .none },
  { cls := 16, slots := #[.int (117)], vm := .none },
  { cls := 16, slots := #[.int (118)], vm := .none },
  { cls := 16, slots := #[.int (119)], vm := .none },
  { cls := 16, slots := #[.int (120)], vm := .none },
  { cls := 16, slots := #[.int (121)], vm := .none },
  { cls := 16, slots := #[.int (122)], vm := .none },
  { cls := 16, slots := #[.int (123)], vm := .none },
  { cls := 16, slots := #[.int (124)], vm := .none },
  { cls := 16, slots := #[.int (125)], vm := .none },
  { cls := 16, slots := #[.int (126)], vm := .none },
  { cls := 16, slots := #[.int (127)], vm := .none },
  { cls := 31, slots := #[], vm := .none },
  { cls := 31, slots := #[], vm := .none }]
def classes : Array Class := #[k0, k1, k2, k3, k4, k5, k6, k7, k8, k9, k10, k11, k12, k13, k14, k15, k16, k17, k18, k19, k20, k21, k22, k23, k24, k25, k26, k27, k28, k29, k30, k31]
def interned : List (Array UInt16 × Addr) := []
def slotsUsed : Nat := 521
def theMethod : MethodId := ⟨1, 1⟩
def args0 : Array Value := #[.int 27, .int 5]
def aboutOver (below : List Frame) : State where
  vm := { classes := classes, interned := interned.toArray }
  heap := heap
  slotsUsed := slotsUsed
  threads := #[{ frames := .invoking theMethod args0 :: below }]
def below0 : List Frame := [.native { method := ⟨0, 0⟩, args := #[] }]
def about1 : State := aboutOver below0
def p0 : Program := .bare "" "" ""
def e0 : Env := launch0.env 0 0 0
theorem w_frames : about1.frames = Frame.invoking theMethod args0 :: below0 := rfl
set_option maxRecDepth 65536 in
theorem w_args : argsFit about1.vm theMethod args0 = true := by decide +kernel
set_option maxRecDepth 65536 in
theorem w_heap : heapFits about1 = true := by decide +kernel
set_option maxRecDepth 65536 in
theorem w_runnable : about1.curStatus? = some .runnable := by decide +kernel
set_option maxRecDepth 65536 in
theorem w_alone : about1.alone = true := by decide +kernel
set_option maxRecDepth 65536 in
theorem w_named : about1.methodNamed? x = some theMethod := by decide +kernel
set_option maxRecDepth 65536 in
theorem w_hears : about1.hears theMethod below0 = true := by decide +kernel
set_option maxRecDepth 65536 in
theorem w_ripe : about1.ripe theMethod args0 below0 = true := by decide +kernel
theorem w_running : about1.status = .running := rfl
set_option maxRecDepth 65536 in
theorem w_room : about1.hasRoom e0.platform room_1 = true :=
  launch0.hasRoom_least _ room_1 (by decide +kernel) (by decide +kernel) (by decide +kernel) (by decide +kernel) (by decide +kernel) (by decide +kernel)
theorem allAtoms_all (ts : List Jvm.Cond) (a : Array Jvm.Value) (st : Jvm.State) : (allAtoms ts).before a st = ts.all (fun c => c.before a st) := by
  induction ts with
  | nil => rfl
  | cons c t ih =>
    show (Jvm.Cond.and c (allAtoms t)).before a st = _
    rw [Jvm.Cond.before_and, ih, List.all_cons]
def words1 : List Jvm.Cond := Jvm.Cond.code x code maxLocals ret :: tables_1
/-- a 'code' word, met by the world's own term for the bytes: nothing is compared byte by byte -/
theorem code_word {y : MethodName} {bytes : ByteArray} {mx : Nat} {rt : Option FieldType} {a : Array Value} {s : State} {m : MethodId} {meth : Method} {c : Code} (h1 : s.methodNamed? y = some m) (h2 : s.vm.method? m = some meth) (h3 : meth.code = some c) (h4 : c.code = bytes)
    (h5 : (c.maxLocals == mx && c.exceptionTable.isEmpty && decide (c.maxStack ≤ mostOperands) && decide (meth.sig.returnType = rt) && !meth.locks && decide (parseMethodDescriptor y.desc = some meth.sig)) = true) : (Jvm.Cond.code y bytes mx rt).before a s = true := by
  simp only [Bool.and_eq_true, beq_iff_eq, Bool.not_eq_true', decide_eq_true_eq] at h5
  obtain ⟨⟨⟨⟨⟨g1, g2⟩, g3⟩, g4⟩, g5⟩, g6⟩ := h5
  simp [Cond.before, Cond.holds, Cond.value, h1, h2, h3, h4, g1, g2, g3, g4, g5, g6]
def isCode : Jvm.Cond → Bool
  | .code _ _ _ _ => true
  | _ => false
theorem all_split {L : List Jvm.Cond} {P : Jvm.Cond → Bool} (h1 : L.all (fun c => isCode c || P c) = true) (h2 : ∀ c ∈ L.filter isCode, P c = true) : L.all P = true := by
  refine List.all_eq_true.mpr fun c hc => ?_
  have h := List.all_eq_true.mp h1 c hc
  rcases Bool.eq_false_or_eq_true (isCode c) with hi | hi
  · exact h2 c (List.mem_filter.mpr ⟨hc, hi⟩)
  · simpa [hi] using h
set_option maxRecDepth 65536 in
theorem w_c0 : (Jvm.Cond.code x code maxLocals ret).before args0 about1 = true := code_word (m := ⟨1, 1⟩) (meth := k1m1) (c := k1c1) (by decide +kernel) rfl rfl rfl (by decide +kernel)
set_option maxRecDepth 65536 in
theorem w_c1 : (Jvm.Cond.code ({ cls := "com/example/brigid/brigid/core/WaitingLine", name := "<init>", desc := "()V" } : Jvm.MethodName) prog_14_method_1_code (1 : Nat) (Option.none : Option Jvm.ClassFile.FieldType)).before args0 about1 = true := code_word (m := ⟨2, 0⟩) (meth := k2m0) (c := k2c0) (by decide +kernel) rfl rfl rfl (by decide +kernel)
set_option maxRecDepth 65536 in
theorem w_c2 : (Jvm.Cond.code ({ cls := "java/lang/Object", name := "<init>", desc := "()V" } : Jvm.MethodName) object_method_1_code (1 : Nat) (Option.none : Option Jvm.ClassFile.FieldType)).before args0 about1 = true := code_word (m := ⟨0, 0⟩) (meth := k0m0) (c := k0c0) (by decide +kernel) rfl rfl rfl (by decide +kernel)
set_option maxRecDepth 65536 in
theorem w_c3 : (Jvm.Cond.code ({ cls := "java/util/ArrayDeque", name := "<init>", desc := "()V" } : Jvm.MethodName) jdk_21_method_3_code (1 : Nat) (Option.none : Option Jvm.ClassFile.FieldType)).before args0 about1 = true := code_word (m := ⟨11, 0⟩) (meth := k11m0) (c := k11c0) (by decide +kernel) rfl rfl rfl (by decide +kernel)
set_option maxRecDepth 65536 in
theorem w_c4 : (Jvm.Cond.code ({ cls := "java/util/AbstractCollection", name := "<init>", desc := "()V" } : Jvm.MethodName) jdk_22_method_1_code (1 : Nat) (Option.none : Option Jvm.ClassFile.FieldType)).before args0 about1 = true := code_word (m := ⟨5, 0⟩) (meth := k5m0) (c := k5c0) (by decide +kernel) rfl rfl rfl (by decide +kernel)
set_option maxRecDepth 65536 in
theorem w_c5 : (Jvm.Cond.code ({ cls := "com/example/brigid/brigid/core/WaitingLine", name := "isEmpty", desc := "()Z" } : Jvm.MethodName) prog_14_method_9_code (1 : Nat) (Option.some Jvm.ClassFile.FieldType.boolean)).before args0 about1 = true := code_word (m := ⟨2, 5⟩) (meth := k2m5) (c := k2c5) (by decide +kernel) rfl rfl rfl (by decide +kernel)
set_option maxRecDepth 65536 in
theorem w_c6 : (Jvm.Cond.code ({ cls := "com/example/brigid/brigid/core/WaitingLineIsEmptyPinLaw", name := "step", desc := "(Lcom/example/brigid/brigid/core/WaitingLine;III)I" } : Jvm.MethodName) method_3_code (4 : Nat) (Option.some Jvm.ClassFile.FieldType.int)).before args0 about1 = true := code_word (m := ⟨1, 2⟩) (meth := k1m2) (c := k1c2) (by decide +kernel) rfl rfl rfl (by decide +kernel)
set_option maxRecDepth 65536 in
theorem w_c7 : (Jvm.Cond.code ({ cls := "java/lang/Integer", name := "valueOf", desc := "(I)Ljava/lang/Integer;" } : Jvm.MethodName) jdk_33_method_22_code (1 : Nat) (Option.some (Jvm.ClassFile.FieldType.object "java/lang/Integer"))).before args0 about1 = true := code_word (m := ⟨16, 0⟩) (meth := k16m0) (c := k16c0) (by decide +kernel) rfl rfl rfl (by decide +kernel)
set_option maxRecDepth 65536 in
theorem w_c8 : (Jvm.Cond.code ({ cls := "com/example/brigid/brigid/core/WaitingLine", name := "join", desc := "(Ljava/lang/Object;)V" } : Jvm.MethodName) prog_14_method_2_code (2 : Nat) (Option.none : Option Jvm.ClassFile.FieldType)).before args0 about1 = true := code_word (m := ⟨2, 1⟩) (meth := k2m1) (c := k2c1) (by decide +kernel) rfl rfl rfl (by decide +kernel)
set_option maxRecDepth 65536 in
theorem w_c9 : (Jvm.Cond.code ({ cls := "java/util/ArrayDeque", name := "addLast", desc := "(Ljava/lang/Object;)V" } : Jvm.MethodName) jdk_21_method_13_code (3 : Nat) (Option.none : Option Jvm.ClassFile.FieldType)).before args0 about1 = true := code_word (m := ⟨11, 6⟩) (meth := k11m6) (c := k11c6) (by decide +kernel) rfl rfl rfl (by decide +kernel)
set_option maxRecDepth 65536 in
theorem w_c10 : (Jvm.Cond.code ({ cls := "java/util/ArrayDeque", name := "inc", desc := "(II)I" } : Jvm.MethodName) jdk_21_method_6_code (2 : Nat) (Option.some Jvm.ClassFile.FieldType.int)).before args0 about1 = true := code_word (m := ⟨11, 1⟩) (meth := k11m1) (c := k11c1) (by decide +kernel) rfl rfl rfl (by decide +kernel)
set_option maxRecDepth 65536 in
theorem w_c11 : (Jvm.Cond.code ({ cls := "java/util/ArrayDeque", name := "size", desc := "()I" } : Jvm.MethodName) jdk_21_method_37_code (1 : Nat) (Option.some Jvm.ClassFile.FieldType.int)).before args0 about1 = true := code_word (m := ⟨11, 8⟩) (meth := k11m8) (c := k11c8) (by decide +kernel) rfl rfl rfl (by decide +kernel)
set_option maxRecDepth 65536 in
theorem w_c12 : (Jvm.Cond.code ({ cls := "java/util/ArrayDeque", name := "sub", desc := "(III)I" } : Jvm.MethodName) jdk_21_method_9_code (3 : Nat) (Option.some Jvm.ClassFile.FieldType.int)).before args0 about1 = true := code_word (m := ⟨11, 3⟩) (meth := k11m3) (c := k11c3) (by decide +kernel) rfl rfl rfl (by decide +kernel)
set_option maxRecDepth 65536 in
theorem w_c13 : (Jvm.Cond.code ({ cls := "com/example/brigid/brigid/core/WaitingLine", name := "next", desc := "()Ljava/lang/Object;" } : Jvm.MethodName) prog_14_method_4_code (2 : Nat) (Option.some (Jvm.ClassFile.FieldType.object "java/lang/Object"))).before args0 about1 = true := code_word (m := ⟨2, 3⟩) (meth := k2m3) (c := k2c3) (by decide +kernel) rfl rfl rfl (by decide +kernel)
set_option maxRecDepth 65536 in
theorem w_c14 : (Jvm.Cond.code ({ cls := "java/util/ArrayDeque", name := "pollFirst", desc := "()Ljava/lang/Object;" } : Jvm.MethodName) jdk_21_method_20_code (4 : Nat) (Option.some (Jvm.ClassFile.FieldType.object "java/lang/Object"))).before args0 about1 = true := code_word (m := ⟨11, 7⟩) (meth := k11m7) (c := k11c7) (by decide +kernel) rfl rfl rfl (by decide +kernel)
set_option maxRecDepth 65536 in
theorem w_c15 : (Jvm.Cond.code ({ cls := "java/util/ArrayDeque", name := "elementAt", desc := "([Ljava/lang/Object;I)Ljava/lang/Object;" } : Jvm.MethodName) jdk_21_method_10_code (2 : Nat) (Option.some (Jvm.ClassFile.FieldType.object "java/lang/Object"))).before args0 about1 = true := code_word (m := ⟨11, 4⟩) (meth := k11m4) (c := k11c4) (by decide +kernel) rfl rfl rfl (by decide +kernel)
set_option maxRecDepth 65536 in
theorem w_c16 : (Jvm.Cond.code ({ cls := "com/example/brigid/brigid/core/WaitingLine", name := "clear", desc := "()Ljava/util/List;" } : Jvm.MethodName) prog_14_method_6_code (2 : Nat) (Option.some (Jvm.ClassFile.FieldType.object "java/util/List"))).before args0 about1 = true := code_word (m := ⟨2, 4⟩) (meth := k2m4) (c := k2c4) (by decide +kernel) rfl rfl rfl (by decide +kernel)
set_option maxRecDepth 65536 in
theorem w_c17 : (Jvm.Cond.code ({ cls := "java/util/ArrayList", name := "<init>", desc := "(Ljava/util/Collection;)V" } : Jvm.MethodName) jdk_38_method_3_code (3 : Nat) (Option.none : Option Jvm.ClassFile.FieldType)).before args0 about1 = true := code_word (m := ⟨21, 1⟩) (meth := k21m1) (c := k21c1) (by decide +kernel) rfl rfl rfl (by decide +kernel)
set_option maxRecDepth 65536 in
theorem w_c18 : (Jvm.Cond.code ({ cls := "java/util/AbstractList", name := "<init>", desc := "()V" } : Jvm.MethodName) jdk_39_method_1_code (1 : Nat) (Option.none : Option Jvm.ClassFile.FieldType)).before args0 about1 = true := code_word (m := ⟨19, 0⟩) (meth := k19m0) (c := k19c0) (by decide +kernel) rfl rfl rfl (by decide +kernel)
set_option maxRecDepth 65536 in
theorem w_c19 : (Jvm.Cond.code ({ cls := "java/util/ArrayDeque", name := "toArray", desc := "()[Ljava/lang/Object;" } : Jvm.MethodName) jdk_21_method_55_code (1 : Nat) (Option.some (Jvm.ClassFile.FieldType.array (Jvm.ClassFile.FieldType.object "java/lang/Object")))).before args0 about1 = true := code_word (m := ⟨11, 11⟩) (meth := k11m11) (c := k11c11) (by decide +kernel) rfl rfl rfl (by decide +kernel)
set_option maxRecDepth 65536 in
theorem w_c20 : (Jvm.Cond.code ({ cls := "java/util/ArrayDeque", name := "toArray", desc := "(Ljava/lang/Class;)[Ljava/lang/Object;" } : Jvm.MethodName) jdk_21_method_56_code (7 : Nat) (Option.some (Jvm.ClassFile.FieldType.array (Jvm.ClassFile.FieldType.object "java/lang/Object")))).before args0 about1 = true := code_word (m := ⟨11, 12⟩) (meth := k11m12) (c := k11c12) (by decide +kernel) rfl rfl rfl (by decide +kernel)
set_option maxRecDepth 65536 in
theorem w_c21 : (Jvm.Cond.code ({ cls := "java/util/Arrays", name := "copyOfRange", desc := "([Ljava/lang/Object;IILjava/lang/Class;)[Ljava/lang/Object;" } : Jvm.MethodName) jdk_65_method_130_code (6 : Nat) (Option.some (Jvm.ClassFile.FieldType.array (Jvm.ClassFile.FieldType.object "java/lang/Object")))).before args0 about1 = true := code_word (m := ⟨22, 2⟩) (meth := k22m2) (c := k22c2) (by decide +kernel) rfl rfl rfl (by decide +kernel)
set_option maxRecDepth 65536 in
theorem w_c22 : (Jvm.Cond.code ({ cls := "java/lang/Math", name := "min", desc := "(II)I" } : Jvm.MethodName) jdk_29_method_69_code (2 : Nat) (Option.some Jvm.ClassFile.FieldType.int)).before args0 about1 = true := code_word (m := ⟨23, 1⟩) (meth := k23m1) (c := k23c1) (by decide +kernel) rfl rfl rfl (by decide +kernel)
set_option maxRecDepth 65536 in
theorem w_c23 : (Jvm.Cond.code ({ cls := "java/util/ArrayDeque", name := "clear", desc := "()V" } : Jvm.MethodName) jdk_21_method_53_code (1 : Nat) (Option.none : Option Jvm.ClassFile.FieldType)).before args0 about1 = true := code_word (m := ⟨11, 9⟩) (meth := k11m9) (c := k11c9) (by decide +kernel) rfl rfl rfl (by decide +kernel)
set_option maxRecDepth 65536 in
theorem w_c24 : (Jvm.Cond.code ({ cls := "java/util/ArrayDeque", name := "circularClear", desc := "([Ljava/lang/Object;II)V" } : Jvm.MethodName) jdk_21_method_54_code (4 : Nat) (Option.none : Option Jvm.ClassFile.FieldType)).before args0 about1 = true := code_word (m := ⟨11, 10⟩) (meth := k11m10) (c := k11c10) (by decide +kernel) rfl rfl rfl (by decide +kernel)
set_option maxRecDepth 65536 in
theorem w_c25 : (Jvm.Cond.code ({ cls := "java/lang/Integer", name := "<init>", desc := "(I)V" } : Jvm.MethodName) jdk_33_method_23_code (2 : Nat) (Option.none : Option Jvm.ClassFile.FieldType)).before args0 about1 = true := code_word (m := ⟨16, 1⟩) (meth := k16m1) (c := k16c1) (by decide +kernel) rfl rfl rfl (by decide +kernel)
set_option maxRecDepth 65536 in
theorem w_c26 : (Jvm.Cond.code ({ cls := "java/lang/Number", name := "<init>", desc := "()V" } : Jvm.MethodName) jdk_18_method_1_code (1 : Nat) (Option.none : Option Jvm.ClassFile.FieldType)).before args0 about1 = true := code_word (m := ⟨12, 0⟩) (meth := k12m0) (c := k12c0) (by decide +kernel) rfl rfl rfl (by decide +kernel)
set_option maxRecDepth 65536 in
theorem w_c27 : (Jvm.Cond.code ({ cls := "java/util/Arrays", name := "copyOf", desc := "([Ljava/lang/Object;ILjava/lang/Class;)[Ljava/lang/Object;" } : Jvm.MethodName) jdk_65_method_120_code (4 : Nat) (Option.some (Jvm.ClassFile.FieldType.array (Jvm.ClassFile.FieldType.object "java/lang/Object")))).before args0 about1 = true := code_word (m := ⟨22, 1⟩) (meth := k22m1) (c := k22c1) (by decide +kernel) rfl rfl rfl (by decide +kernel)
set_option maxRecDepth 65536 in
theorem w_c28 : (Jvm.Cond.code ({ cls := "com/example/brigid/brigid/core/WaitingLine", name := "joinFirst", desc := "(Ljava/lang/Object;)V" } : Jvm.MethodName) prog_14_method_3_code (2 : Nat) (Option.none : Option Jvm.ClassFile.FieldType)).before args0 about1 = true := code_word (m := ⟨2, 2⟩) (meth := k2m2) (c := k2c2) (by decide +kernel) rfl rfl rfl (by decide +kernel)
set_option maxRecDepth 65536 in
theorem w_c29 : (Jvm.Cond.code ({ cls := "java/util/ArrayDeque", name := "addFirst", desc := "(Ljava/lang/Object;)V" } : Jvm.MethodName) jdk_21_method_12_code (3 : Nat) (Option.none : Option Jvm.ClassFile.FieldType)).before args0 about1 = true := code_word (m := ⟨11, 5⟩) (meth := k11m5) (c := k11c5) (by decide +kernel) rfl rfl rfl (by decide +kernel)
set_option maxRecDepth 65536 in
theorem w_c30 : (Jvm.Cond.code ({ cls := "java/util/ArrayDeque", name := "dec", desc := "(II)I" } : Jvm.MethodName) jdk_21_method_7_code (2 : Nat) (Option.some Jvm.ClassFile.FieldType.int)).before args0 about1 = true := code_word (m := ⟨11, 2⟩) (meth := k11m2) (c := k11c2) (by decide +kernel) rfl rfl rfl (by decide +kernel)
def codes1 : List Jvm.Cond := [Jvm.Cond.code x code maxLocals ret, Jvm.Cond.code ({ cls := "com/example/brigid/brigid/core/WaitingLine", name := "<init>", desc := "()V" } : Jvm.MethodName) prog_14_method_1_code (1 : Nat) (Option.none : Option Jvm.ClassFile.FieldType), Jvm.Cond.code ({ cls := "java/lang/Object", name := "<init>", desc := "()V" } : Jvm.MethodName) object_method_1_code (1 : Nat) (Option.none : Option Jvm.ClassFile.FieldType), Jvm.Cond.code ({ cls := "java/util/ArrayDeque", name := "<init>", desc := "()V" } : Jvm.MethodName) jdk_21_method_3_code (1 : Nat) (Option.none : Option Jvm.ClassFile.FieldType), Jvm.Cond.code ({ cls := "java/util/AbstractCollection", name := "<init>", desc := "()V" } : Jvm.MethodName) jdk_22_method_1_code (1 : Nat) (Option.none : Option Jvm.ClassFile.FieldType), Jvm.Cond.code ({ cls := "com/example/brigid/brigid/core/WaitingLine", name := "isEmpty", desc := "()Z" } : Jvm.MethodName) prog_14_method_9_code (1 : Nat) (Option.some Jvm.ClassFile.FieldType.boolean), Jvm.Cond.code ({ cls := "com/example/brigid/brigid/core/WaitingLineIsEmptyPinLaw", name := "step", desc := "(Lcom/example/brigid/brigid/core/WaitingLine;III)I" } : Jvm.MethodName) method_3_code (4 : Nat) (Option.some Jvm.ClassFile.FieldType.int), Jvm.Cond.code ({ cls := "java/lang/Integer", name := "valueOf", desc := "(I)Ljava/lang/Integer;" } : Jvm.MethodName) jdk_33_method_22_code (1 : Nat) (Option.some (Jvm.ClassFile.FieldType.object "java/lang/Integer")), Jvm.Cond.code ({ cls := "com/example/brigid/brigid/core/WaitingLine", name := "join", desc := "(Ljava/lang/Object;)V" } : Jvm.MethodName) prog_14_method_2_code (2 : Nat) (Option.none : Option Jvm.ClassFile.FieldType), Jvm.Cond.code ({ cls := "java/util/ArrayDeque", name := "addLast", desc := "(Ljava/lang/Object;)V" } : Jvm.MethodName) jdk_21_method_13_code (3 : Nat) (Option.none : Option Jvm.ClassFile.FieldType), Jvm.Cond.code ({ cls := "java/util/ArrayDeque", name := "inc", desc := "(II)I" } : Jvm.MethodName) jdk_21_method_6_code (2 : Nat) (Option.some Jvm.ClassFile.FieldType.int), Jvm.Cond.code ({ cls := "java/util/ArrayDeque", name := "size", desc := "()I" } : Jvm.MethodName) jdk_21_method_37_code (1 : Nat) (Option.some Jvm.ClassFile.FieldType.int), Jvm.Cond.code ({ cls := "java/util/ArrayDeque", name := "sub", desc := "(III)I" } : Jvm.MethodName) jdk_21_method_9_code (3 : Nat) (Option.some Jvm.ClassFile.FieldType.int), Jvm.Cond.code ({ cls := "com/example/brigid/brigid/core/WaitingLine", name := "next", desc := "()Ljava/lang/Object;" } : Jvm.MethodName) prog_14_method_4_code (2 : Nat) (Option.some (Jvm.ClassFile.FieldType.object "java/lang/Object")), Jvm.Cond.code ({ cls := "java/util/ArrayDeque", name := "pollFirst", desc := "()Ljava/lang/Object;" } : Jvm.MethodName) jdk_21_method_20_code (4 : Nat) (Option.some (Jvm.ClassFile.FieldType.object "java/lang/Object")), Jvm.Cond.code ({ cls := "java/util/ArrayDeque", name := "elementAt", desc := "([Ljava/lang/Object;I)Ljava/lang/Object;" } : Jvm.MethodName) jdk_21_method_10_code (2 : Nat) (Option.some (Jvm.ClassFile.FieldType.object "java/lang/Object")), Jvm.Cond.code ({ cls := "com/example/brigid/brigid/core/WaitingLine", name := "clear", desc := "()Ljava/util/List;" } : Jvm.MethodName) prog_14_method_6_code (2 : Nat) (Option.some (Jvm.ClassFile.FieldType.object "java/util/List")), Jvm.Cond.code ({ cls := "java/util/ArrayList", name := "<init>", desc := "(Ljava/util/Collection;)V" } : Jvm.MethodName) jdk_38_method_3_code (3 : Nat) (Option.none : Option Jvm.ClassFile.FieldType), Jvm.Cond.code ({ cls := "java/util/AbstractList", name := "<init>", desc := "()V" } : Jvm.MethodName) jdk_39_method_1_code (1 : Nat) (Option.none : Option Jvm.ClassFile.FieldType), Jvm.Cond.code ({ cls := "java/util/ArrayDeque", name := "toArray", desc := "()[Ljava/lang/Object;" } : Jvm.MethodName) jdk_21_method_55_code (1 : Nat) (Option.some (Jvm.ClassFile.FieldType.array (Jvm.ClassFile.FieldType.object "java/lang/Object"))), Jvm.Cond.code ({ cls := "java/util/ArrayDeque", name := "toArray", desc := "(Ljava/lang/Class;)[Ljava/lang/Object;" } : Jvm.MethodName) jdk_21_method_56_code (7 : Nat) (Option.some (Jvm.ClassFile.FieldType.array (Jvm.ClassFile.FieldType.object "java/lang/Object"))), Jvm.Cond.code ({ cls := "java/util/Arrays", name := "copyOfRange", desc := "([Ljava/lang/Object;IILjava/lang/Class;)[Ljava/lang/Object;" } : Jvm.MethodName) jdk_65_method_130_code (6 : Nat) (Option.some (Jvm.ClassFile.FieldType.array (Jvm.ClassFile.FieldType.object "java/lang/Object"))), Jvm.Cond.code ({ cls := "java/lang/Math", name := "min", desc := "(II)I" } : Jvm.MethodName) jdk_29_method_69_code (2 : Nat) (Option.some Jvm.ClassFile.FieldType.int), Jvm.Cond.code ({ cls := "java/util/ArrayDeque", name := "clear", desc := "()V" } : Jvm.MethodName) jdk_21_method_53_code (1 : Nat) (Option.none : Option Jvm.ClassFile.FieldType), Jvm.Cond.code ({ cls := "java/util/ArrayDeque", name := "circularClear", desc := "([Ljava/lang/Object;II)V" } : Jvm.MethodName) jdk_21_method_54_code (4 : Nat) (Option.none : Option Jvm.ClassFile.FieldType), Jvm.Cond.code ({ cls := "java/lang/Integer", name := "<init>", desc := "(I)V" } : Jvm.MethodName) jdk_33_method_23_code (2 : Nat) (Option.none : Option Jvm.ClassFile.FieldType), Jvm.Cond.code ({ cls := "java/lang/Number", name := "<init>", desc := "()V" } : Jvm.MethodName) jdk_18_method_1_code (1 : Nat) (Option.none : Option Jvm.ClassFile.FieldType), Jvm.Cond.code ({ cls := "java/util/Arrays", name := "copyOf", desc := "([Ljava/lang/Object;ILjava/lang/Class;)[Ljava/lang/Object;" } : Jvm.MethodName) jdk_65_method_120_code (4 : Nat) (Option.some (Jvm.ClassFile.FieldType.array (Jvm.ClassFile.FieldType.object "java/lang/Object"))), Jvm.Cond.code ({ cls := "com/example/brigid/brigid/core/WaitingLine", name := "joinFirst", desc := "(Ljava/lang/Object;)V" } : Jvm.MethodName) prog_14_method_3_code (2 : Nat) (Option.none : Option Jvm.ClassFile.FieldType), Jvm.Cond.code ({ cls := "java/util/ArrayDeque", name := "addFirst", desc := "(Ljava/lang/Object;)V" } : Jvm.MethodName) jdk_21_method_12_code (3 : Nat) (Option.none : Option Jvm.ClassFile.FieldType), Jvm.Cond.code ({ cls := "java/util/ArrayDeque", name := "dec", desc := "(II)I" } : Jvm.MethodName) jdk_21_method_7_code (2 : Nat) (Option.some Jvm.ClassFile.FieldType.int)]
set_option maxRecDepth 65536 in
theorem codes_eq : words1.filter isCode = codes1 := rfl
theorem w_codes : ∀ c ∈ words1.filter isCode, c.before args0 about1 = true := by
  rw [codes_eq]
  intro c hc
  simp only [codes1, List.mem_cons, List.not_mem_nil, or_false] at hc
  rcases hc with rfl | rfl | rfl | rfl | rfl | rfl | rfl | rfl | rfl | rfl | rfl | rfl | rfl | rfl | rfl | rfl | rfl | rfl | rfl | rfl | rfl | rfl | rfl | rfl | rfl | rfl | rfl | rfl | rfl | rfl | rfl
  · exact w_c0
  · exact w_c1
  · exact w_c2
  · exact w_c3
  · exact w_c4
  · exact w_c5
  · exact w_c6
  · exact w_c7
  · exact w_c8
  · exact w_c9
  · exact w_c10
  · exact w_c11
  · exact w_c12
  · exact w_c13
  · exact w_c14
  · exact w_c15
  · exact w_c16
  · exact w_c17
  · exact w_c18
  · exact w_c19
  · exact w_c20
  · exact w_c21
  · exact w_c22
  · exact w_c23
  · exact w_c24
  · exact w_c25
  · exact w_c26
  · exact w_c27
  · exact w_c28
  · exact w_c29
  · exact w_c30
set_option maxRecDepth 65536 in
theorem w_t1 : (words1.take 24).all (fun c => isCode c || c.before args0 about1) = true := by decide +kernel
set_option maxRecDepth 65536 in
theorem w_t2 : ((words1.drop 24).take 24).all (fun c => isCode c || c.before args0 about1) = true := by decide +kernel
set_option maxRecDepth 65536 in
theorem w_t3 : (((words1.drop 24).drop 24).take 24).all (fun c => isCode c || c.before args0 about1) = true := by decide +kernel
set_option maxRecDepth 65536 in
theorem w_t4 : ((((words1.drop 24).drop 24).drop 24).take 24).all (fun c => isCode c || c.before args0 about1) = true := by decide +kernel
set_option maxRecDepth 65536 in
theorem w_t5 : (((((words1.drop 24).drop 24).drop 24).drop 24).take 24).all (fun c => isCode c || c.before args0 about1) = true := by decide +kernel
set_option maxRecDepth 65536 in
theorem w_t6 : ((((((words1.drop 24).drop 24).drop 24).drop 24).drop 24).take 24).all (fun c => isCode c || c.before args0 about1) = true := by decide +kernel
set_option maxRecDepth 65536 in
theorem w_t7 : (((((((words1.drop 24).drop 24).drop 24).drop 24).drop 24).drop 24).take 24).all (fun c => isCode c || c.before args0 about1) = true := by decide +kernel
set_option maxRecDepth 65536 in
theorem w_t8 : ((((((((words1.drop 24).drop 24).drop 24).drop 24).drop 24).drop 24).drop 24).take 24).all (fun c => isCode c || c.before args0 about1) = true := by decide +kernel
set_option maxRecDepth 65536 in
theorem w_t9 : ((((((((words1.drop 24).drop 24).drop 24).drop 24).drop 24).drop 24).drop 24).drop 24).all (fun c => isCode c || c.before args0 about1) = true := by decide +kernel
theorem w_tables : (allAtoms (Jvm.Cond.code x code maxLocals ret :: tables_1)).before args0 about1 = true := by
  rw [allAtoms_all]
  show words1.all (fun c => c.before args0 about1) = true
  refine all_split ?_ w_codes
  rw [← List.take_append_drop 24 words1, List.all_append, w_t1, ← List.take_append_drop 24 (words1.drop 24), List.all_append, w_t2, ← List.take_append_drop 24 ((words1.drop 24).drop 24), List.all_append, w_t3, ← List.take_append_drop 24 (((words1.drop 24).drop 24).drop 24), List.all_append, w_t4, ← List.take_append_drop 24 ((((words1.drop 24).drop 24).drop 24).drop 24), List.all_append, w_t5, ← List.take_append_drop 24 (((((words1.drop 24).drop 24).drop 24).drop 24).drop 24), List.all_append, w_t6, ← List.take_append_drop 24 ((((((words1.drop 24).drop 24).drop 24).drop 24).drop 24).drop 24), List.all_append, w_t7, ← List.take_append_drop 24 (((((((words1.drop 24).drop 24).drop 24).drop 24).drop 24).drop 24).drop 24), List.all_append, w_t8, w_t9]
  rfl
set_option maxRecDepth 65536 in
theorem w_rest : rest_1_c.before args0 about1 = true := by decide +kernel
set_option maxRecDepth 65536 in
theorem w_case : (Jvm.Cond.and given_1 narrow_1).before args0 about1 = true := by decide +kernel
theorem w_applies : (headSpec (Jvm.Cond.code x code maxLocals ret :: tables_1) room_1).applies x e0.platform about1 = true :=
  (Spec.applies_iff w_frames).mpr ⟨w_running, w_runnable, w_alone, w_named, w_hears, w_ripe, w_room, w_tables⟩
set_option maxRecDepth 65536 in
theorem atStart : AtStart classFile x code maxLocals ret World_1 tables_1 room_1 Calls_1 rest_1 Pre_1 launch0 p0 e0 about1 theMethod args0 below0 :=
  ⟨lists_1, trivial, launch0.admits_env _ _ _, launch0.least_env, fairChoices_fair.cas, fairChoices_fair.clock, w_frames, w_args, w_heap, w_applies, ⟨⟨31, k31, 2, by decide +kernel, rfl, rfl, _, rfl, rfl⟩, ⟨⟨11, k11, 3, by decide +kernel, rfl, rfl, _, rfl, rfl⟩, ⟨⟨21, k21, 4, by decide +kernel, rfl, rfl, _, rfl, rfl⟩, trivial⟩⟩⟩, w_rest, w_case⟩
end start1
theorem witness_1 : WitnessClaimed_1 := ⟨start1.p0, start1.e0, start1.about1, start1.theMethod, start1.args0, start1.below0, start1.atStart⟩
end Jvm.Pilot.@@N@@
