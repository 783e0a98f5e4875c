import JvmDerived
import JvmDerived.Pilot.@@N@@Statement
import JvmDerived.Pilot.@@N@@Code
set_option linter.unusedVariables false
set_option linter.unusedSimpArgs false
@@BLOCK:NumsL.lean.txt@@
namespace Jvm.RoadKit
open Sem ClassFile Op Lib Jvm.Stand Jvm.Free Jvm.LawKit
section New
variable {p : Program} {l : Launch} {e : Env} {R : Room} {s : State} {m : MethodId} {args : Array Value} {below : List Frame} {meth : Method} {c : Code} {T : State} {locs : List Loc} {cells slots : Nat}
theorem retI (X : Stand p l e R s m args below meth c T locs cells slots) (hx : p.tables.exec = Jvm.exec) {pc : Nat} {Ls : Array Slot} {z : Int32} {rest : List Value} (hret : meth.sig.returnType = some .int) (hd : decode c.code pc = .ok (.ireturn, 1)) {fs : List Frame}
    (hl : ∀ (f : JFrame) (acts : List Action), f.method = m → f.locked = none → f.entered = [] → (doReturn e (T.setTop f) acts (some (.int z))).1 = T.setFrames fs) : Steps p.tables e below (T.setTop (mkF m pc Ls (.int z :: rest))) (T.setFrames fs) := by
  have hm' : T.vm.method? m = some meth := X.method'
  have hn : narrow .int (.int z) = .int z := rfl
  show Steps p.tables e below (T.setTop { method := m, pc := pc, locals := Ls, stack := _ :: rest, locked := none }) _
  jvm_step X.here [X.here.top, hx, hd, hm', hret, hn]
  first | (intro acts; rw [hl _ acts rfl rfl rfl]) | rw [hl _ _ rfl rfl rfl]
  exact Steps.refl _
end New
end Jvm.RoadKit
namespace Jvm.Pilot.@@N@@
open Jvm Jvm.ClassFile Sem Op Lib Jvm.Free Jvm.Stand Jvm.LawKit Jvm.RoadKit Bundle Jvm.Pilot.@@N@@.Jvm.D
/-! numbers -/
theorem own_i {n : Nat} (hn : n < 4) : (Int32.ofNat n).toInt = n := Int32.toInt_ofNat_of_lt (by omega)
theorem own_nn {n : Nat} (hn : n < 4) : ¬ Int32.ofNat n < 0 := by
  rw [Int32.lt_iff_toInt_lt, own_i hn, show (0 : Int32).toInt = 0 from rfl]
  omega
theorem own_n32 {n : Nat} (hn : n < 4) : (Int32.ofNat n).toNatClampNeg = n := by
  rw [Int32.toNatClampNeg, own_i hn]
  rfl
theorem own_inj {a b : Nat} (ha : a < 4) (hb : b < 4) : Int32.ofNat a = Int32.ofNat b ↔ a = b := by
  rw [← Int32.toInt_inj, own_i ha, own_i hb]
  omega
theorem own_lt {a b : Nat} (ha : a < 4) (hb : b < 4) : Int32.ofNat a < Int32.ofNat b ↔ a < b := by
  rw [Int32.lt_iff_toInt_lt, own_i ha, own_i hb]
  omega
theorem own_mask (x : Int32) : ∃ n : Nat, n < 4 ∧ (x &&& (3 : Int32)) = Int32.ofNat n := by
  have e1 : (x &&& 3).toInt = x.toInt % 2 ^ 2 := Jvm.Kit.i32_mask x 3 (k := 2) (by decide) (by decide)
  refine ⟨(x &&& 3).toInt.toNat, by omega, ?_⟩
  rw [← Int32.toInt_inj, own_i (by omega)]
  omega
/-! the plain law: lists of four numbers -/
def own_loop : Nat → List Nat → Nat → List Nat × Nat
  | 0, t, a => (t, a)
  | k + 1, t, a => if t.getD a 0 = a then (t, a) else own_loop k (t.set a (t.getD (t.getD a 0) 0)) ((t.set a (t.getD (t.getD a 0) 0)).getD a 0)
def own_union (t : List Nat) (a b : Nat) : List Nat :=
  if (own_loop 3 t a).2 = (own_loop 3 (own_loop 3 t a).1 b).2 then (own_loop 3 (own_loop 3 t a).1 b).1
  else (own_loop 3 (own_loop 3 t a).1 b).1.set (max (own_loop 3 t a).2 (own_loop 3 (own_loop 3 t a).1 b).2) (min (own_loop 3 t a).2 (own_loop 3 (own_loop 3 t a).1 b).2)
def own_f (la lb mn x : Nat) : Nat := if x = la ∨ x = lb then mn else x
def own_join (t : List Nat) (a b : Nat) : List Nat := t.map (own_f (t.getD a 0) (t.getD b 0) (min (t.getD a 0) (t.getD b 0)))
def own_roots (t : List Nat) : List Nat := [(own_loop 3 t 0).2, (own_loop 3 t 1).2, (own_loop 3 t 2).2, (own_loop 3 t 3).2]
def own_Ok (t : List Nat) : Prop := t.length = 4 ∧ ∀ i, i < 4 → t.getD i 0 ≤ i
def own_okB (t : List Nat) : Bool := t.length == 4 && (t.getD 0 0 == 0 && (Nat.ble (t.getD 1 0) 1 && (Nat.ble (t.getD 2 0) 2 && Nat.ble (t.getD 3 0) 3)))
theorem own_ok_of {t : List Nat} (h : own_okB t = true) : own_Ok t := by
  simp only [own_okB, Bool.and_eq_true, beq_iff_eq, Nat.ble_eq] at h
  obtain ⟨h1, h2, h3, h4, h5⟩ := h
  refine ⟨h1, fun i hi => ?_⟩
  match i, hi with
  | 0, _ => omega
  | 1, _ => omega
  | 2, _ => omega
  | 3, _ => omega
theorem own_ok_list {t : List Nat} (h : own_Ok t) : ∃ (a : Fin 2) (b : Fin 3) (c : Fin 4), t = [0, a.1, b.1, c.1] := by
  obtain ⟨hl, hv⟩ := h
  match t, hl with
  | [x0, x1, x2, x3], _ =>
    have h0 : x0 ≤ 0 := hv 0 (by omega)
    have h1 : x1 ≤ 1 := hv 1 (by omega)
    have h2 : x2 ≤ 2 := hv 2 (by omega)
    have h3 : x3 ≤ 3 := hv 3 (by omega)
    obtain rfl : x0 = 0 := by omega
    exact ⟨⟨x1, by omega⟩, ⟨x2, by omega⟩, ⟨x3, by omega⟩, rfl⟩
set_option maxRecDepth 100000 in
theorem own_fin_named : ∀ (a : Fin 2) (b : Fin 3) (c : Fin 4) (i : Fin 4), own_okB (own_loop 3 [0, a.1, b.1, c.1] i.1).1 = true ∧ own_roots (own_loop 3 [0, a.1, b.1, c.1] i.1).1 = own_roots [0, a.1, b.1, c.1] ∧ (own_loop 3 [0, a.1, b.1, c.1] i.1).2 = (own_roots [0, a.1, b.1, c.1]).getD i.1 0 ∧ (own_loop 3 [0, a.1, b.1, c.1] i.1).2 < 4 := by decide +kernel
set_option maxRecDepth 100000 in
theorem own_fin_union : ∀ (a : Fin 2) (b : Fin 3) (c : Fin 4) (i j : Fin 4), own_okB (own_union [0, a.1, b.1, c.1] i.1 j.1) = true ∧ own_roots (own_union [0, a.1, b.1, c.1] i.1 j.1) = own_join (own_roots [0, a.1, b.1, c.1]) i.1 j.1 := by decide +kernel
theorem own_named_says {t : List Nat} (h : own_Ok t) {i : Nat} (hi : i < 4) : own_Ok (own_loop 3 t i).1 ∧ own_roots (own_loop 3 t i).1 = own_roots t ∧ (own_loop 3 t i).2 = (own_roots t).getD i 0 ∧ (own_loop 3 t i).2 < 4 := by
  obtain ⟨a, b, c, rfl⟩ := own_ok_list h
  have q := own_fin_named a b c ⟨i, hi⟩
  exact ⟨own_ok_of q.1, q.2⟩
theorem own_union_says {t : List Nat} (h : own_Ok t) {i j : Nat} (hi : i < 4) (hj : j < 4) : own_Ok (own_union t i j) ∧ own_roots (own_union t i j) = own_join (own_roots t) i j := by
  obtain ⟨a, b, c, rfl⟩ := own_ok_list h
  have q := own_fin_union a b c ⟨i, hi⟩ ⟨j, hj⟩
  exact ⟨own_ok_of q.1, q.2⟩
theorem own_roots_lt {t : List Nat} (h : own_Ok t) {i : Nat} (hi : i < 4) : (own_roots t).getD i 0 < 4 := by
  rw [← (own_named_says h hi).2.2.1]
  exact (own_named_says h hi).2.2.2
theorem own_lt4 {t : List Nat} (h : own_Ok t) {i : Nat} (hi : i < 4) : t.getD i 0 < 4 := Nat.lt_of_le_of_lt (h.2 i hi) hi
theorem own_setD (t : List Nat) (i y q : Nat) (hi : i < t.length) : (t.set i y).getD q 0 = if q = i then y else t.getD q 0 := by
  simp only [List.getD_eq_getElem?_getD, List.getElem?_set]
  by_cases z : q = i
  · subst z
    simp [hi]
  · rw [if_neg (fun w => z w.symm), if_neg z]
theorem own_set_ok {t : List Nat} (h : own_Ok t) {i : Nat} (hi : i < 4) : own_Ok (t.set i (t.getD (t.getD i 0) 0)) ∧ (t.set i (t.getD (t.getD i 0) 0)).getD i 0 ≤ t.getD i 0 := by
  have h1 := h.2 i hi
  have h2 := h.2 (t.getD i 0) (by omega)
  have hl := h.1
  refine ⟨⟨by rw [List.length_set]; exact hl, fun q hq => ?_⟩, ?_⟩
  · rw [own_setD _ _ _ _ (by omega)]
    by_cases z : q = i
    · rw [if_pos z]; omega
    · rw [if_neg z]; exact h.2 q hq
  · rw [own_setD _ _ _ _ (by omega), if_pos rfl]
    exact h2
/-! arrays of ints: the array at a has n places; place j holds f j -/
def own_A (Z : State) (h : Heap) (a : Addr) (n : Nat) (f : Nat → Int32) : Prop := ∃ cl : Cell, Arr Z h a cl .int ∧ cl.slots.size = n ∧ ∀ j, j < n → cl.slots[j]? = some (.int (f j))
theorem own_A.lt {Z : State} {h : Heap} {a : Addr} {n : Nat} {f : Nat → Int32} (A : own_A Z h a n f) : a < h.size := by
  obtain ⟨cl, Ar, -⟩ := A
  exact Ar.lt
theorem own_A.ext {Z : State} {h h' : Heap} {a : Addr} {n : Nat} {f : Nat → Int32} (A : own_A Z h a n f) (E : Ext h h') : own_A Z h' a n f := by
  obtain ⟨cl, Ar, r⟩ := A
  exact ⟨cl, Ar.ext E, r⟩
theorem own_A.keep {Z : State} {h h' : Heap} {a : Addr} {n : Nat} {f : Nat → Int32} {ws : List Addr} (A : own_A Z h a n f) (K : Keep h h' ws) (q : a ∉ ws) : own_A Z h' a n f := by
  obtain ⟨cl, Ar, r⟩ := A
  exact ⟨cl, ⟨K.2.1 a cl Ar.1 q, Ar.2⟩, r⟩
theorem own_slot (cl : Cell) (k : Nat) (v : Value) (i : Nat) (hk : k < cl.slots.size) : (cl.setSlot k v).slots[i]? = if i = k then some v else cl.slots[i]? := by
  show (cl.slots.setIfInBounds k v)[i]? = _
  rw [Array.getElem?_setIfInBounds]
  by_cases q : k = i
  · subst q
    simp [hk]
  · rw [if_neg q, if_neg (fun z => q z.symm)]
set_option maxHeartbeats 4000000 in
theorem own_put {p : Program} {l : Launch} {e : Env} {R : Room} {s : State} {m : MethodId} {args : Array Value} {below : List Frame} {meth : Method} {c : Code} {T : State} {locs : List Loc} {cells slots : Nat} {Z : State} (X : Stand p l e R s m args below meth c T locs cells slots) (hx : p.tables.exec = Jvm.exec) (hZ : Z.Warmed39 s.vm) {h : Heap} (eT : T.heap = h) {a : Addr} {n : Nat} {f : Nat → Int32} (A : own_A Z h a n f) {n0 : Nat} (N : Fr n0 locs) (ga : n0 ≤ a) {j x : Int32} (hj : ¬ j < 0) (hk : j.toNatClampNeg < n) {g : JFrame} (hg : g.method = m) {rest : List Value} (hs : g.stack = .int x :: .int j :: .ref a :: rest) (hd : decode c.code g.pc = .ok (.iastore, 1)) :
    ∃ (T' : State) (h' : Heap) (locs' : List Loc), Stand p l e R s m args below meth c T' locs' cells slots ∧ T'.heap = h' ∧ Fr n0 locs' ∧ own_A Z h' a n (fun i => if i = j.toNatClampNeg then x else f i) ∧ Keep h h' [a] ∧ ∀ target, Steps p.tables e below (T'.setTop { g with pc := g.pc + 1, stack := rest }) target → Steps p.tables e below (T.setTop g) target := by
  obtain ⟨cl, Ar, S, V⟩ := A
  obtain ⟨T', h', X', e', W', st⟩ := stI X hx hZ eT Ar (j := j) (by rw [S]; exact fun q => q.elim hj (fun q => by omega)) hg hs hd
  refine ⟨T', h', _, X', e', Fr.snoc X' N ga, ⟨_, Ar.same W', by rw [sz_set]; exact S, fun i hi => ?_⟩, Keep.of_wr W', st⟩
  rw [own_slot _ _ _ _ (by omega)]
  show _ = some (Value.int (if i = j.toNatClampNeg then x else f i))
  by_cases q : i = j.toNatClampNeg
  · rw [if_pos q, if_pos q]
  · rw [if_neg q, if_neg q]
    exact V i hi
set_option maxHeartbeats 4000000 in
theorem own_load {p : Program} {l : Launch} {e : Env} {R : Room} {s : State} {m : MethodId} {args : Array Value} {below : List Frame} {meth : Method} {c : Code} {T : State} {locs : List Loc} {cells slots : Nat} {Z : State} (X : Stand p l e R s m args below meth c T locs cells slots) (hx : p.tables.exec = Jvm.exec) (hZ : Z.Warmed39 s.vm) {h : Heap} (eT : T.heap = h) {a : Addr} {n : Nat} {f : Nat → Int32} (A : own_A Z h a n f) {j : Int32} (hj : ¬ j < 0) (hk : j.toNatClampNeg < n) {g : JFrame} (hg : g.method = m) {rest : List Value} (hs : g.stack = .int j :: .ref a :: rest) (hd : decode c.code g.pc = .ok (.iaload, 1)) :
    ∃ z : Int32, z = f j.toNatClampNeg ∧ ∀ target, Steps p.tables e below (T.setTop { g with pc := g.pc + 1, stack := .int z :: rest }) target → Steps p.tables e below (T.setTop g) target := by
  obtain ⟨cl, Ar, S, V⟩ := A
  exact ⟨_, rfl, fun target hr => X.iaload hx (j := j) (v := .int (f j.toNatClampNeg)) (by rw [eT]; exact Ar.1) (State.isArrayOf_alike hZ.alike Ar.2.1) Ar.2.2 (by rw [S]; exact fun q => q.elim hj (fun q => by omega)) (V _ hk) hg hs hd target hr⟩
set_option maxHeartbeats 4000000 in
theorem own_new {p : Program} {l : Launch} {e : Env} {R : Room} {s : State} {m : MethodId} {args : Array Value} {below : List Frame} {meth : Method} {c : Code} {T : State} {locs : List Loc} {cells slots : Nat} {Z : State} (X : Stand p l e R s m args below meth c T locs cells slots) (hx : p.tables.exec = Jvm.exec) (hZ : Z.Warmed39 s.vm) {h : Heap} (eT : T.heap = h) {a0 : Array Value} (w : (Cond.arrayClass .int).before a0 Z = true) {g : JFrame} (hg : g.method = m) (hd : decode c.code g.pc = .ok (.newarray .int, 2)) {n : Int32} {rest : List Value} (hs : g.stack = .int n :: rest) (hn : ¬ n < 0) {k : Nat} (hk : n.toNatClampNeg = k) (hb : k * 8 ≤ 536870912) (hc : cells + 1 ≤ R.cells) (hl : slots + k ≤ R.slots) :
    ∃ (T' : State) (h' : Heap), Stand p l e R s m args below meth c T' locs (cells + 1) (slots + k) ∧ T'.heap = h' ∧ Ext h h' ∧ own_A Z h' h.size k (fun _ => 0) ∧ ∀ target, Steps p.tables e below (T'.setTop { g with pc := g.pc + 2, stack := .ref h.size :: rest }) target → Steps p.tables e below (T.setTop g) target := by
  obtain ⟨T', h', cA, X', e', E', A', st⟩ := newP X hx hZ (aty := .int) w eT hg hd hs hn (cap := k) (Nat.le_of_eq hk) hb hc hl
  refine ⟨T', h', X', e', E', ⟨_, A', by rw [sz_new]; exact hk, fun j hj => ?_⟩, st⟩
  show (Array.replicate n.toNatClampNeg (defaultValue .int))[j]? = _
  rw [hk, Array.getElem?_replicate, if_pos hj]
  rfl
/-- an int[] at a that holds the numbers t -/
def own_T (Z : State) (h : Heap) (a : Addr) (t : List Nat) : Prop := own_A Z h a t.length (fun i => Int32.ofNat (t.getD i 0))
theorem own_T.lt {Z : State} {h : Heap} {a : Addr} {t : List Nat} (A : own_T Z h a t) : a < h.size := own_A.lt A
theorem own_T.ext {Z : State} {h h' : Heap} {a : Addr} {t : List Nat} (A : own_T Z h a t) (E : Ext h h') : own_T Z h' a t := own_A.ext A E
theorem own_T.keep {Z : State} {h h' : Heap} {a : Addr} {t : List Nat} {ws : List Addr} (A : own_T Z h a t) (K : Keep h h' ws) (q : a ∉ ws) : own_T Z h' a t := own_A.keep A K q
theorem own_nin {a b : Addr} (h : a ≠ b) : a ∉ [b] := fun q => h (List.mem_singleton.mp q)
theorem own_k1 {h0 h h' : Heap} {w : Addr} (K : Keep h0 h [w]) (K' : Keep h h' [w]) : Keep h0 h' [w] := K.trans K' fun x hx => Or.inl hx
set_option maxHeartbeats 4000000 in
theorem own_getT {p : Program} {l : Launch} {e : Env} {R : Room} {s : State} {m : MethodId} {args : Array Value} {below : List Frame} {meth : Method} {c : Code} {T : State} {locs : List Loc} {cells slots : Nat} {Z : State} (X : Stand p l e R s m args below meth c T locs cells slots) (hx : p.tables.exec = Jvm.exec) (hZ : Z.Warmed39 s.vm) {h : Heap} (eT : T.heap = h) {a : Addr} {t : List Nat} (A : own_T Z h a t) (hl : t.length = 4) {i : Nat} (hi : i < 4) {j : Int32} (ej : j = Int32.ofNat i) {g : JFrame} (hg : g.method = m) {rest : List Value} (hs : g.stack = .int j :: .ref a :: rest) (hd : decode c.code g.pc = .ok (.iaload, 1)) :
    ∀ target, Steps p.tables e below (T.setTop { g with pc := g.pc + 1, stack := .int (Int32.ofNat (t.getD i 0)) :: rest }) target → Steps p.tables e below (T.setTop g) target := by
  subst ej
  obtain ⟨z, hz, st⟩ := own_load X hx hZ eT A (own_nn hi) (by rw [own_n32 hi, hl]; exact hi) hg hs hd
  rw [own_n32 hi] at hz
  subst hz
  exact st
set_option maxHeartbeats 4000000 in
theorem own_putT {p : Program} {l : Launch} {e : Env} {R : Room} {s : State} {m : MethodId} {args : Array Value} {below : List Frame} {meth : Method} {c : Code} {T : State} {locs : List Loc} {cells slots : Nat} {Z : State} (X : Stand p l e R s m args below meth c T locs cells slots) (hx : p.tables.exec = Jvm.exec) (hZ : Z.Warmed39 s.vm) {h : Heap} (eT : T.heap = h) {a : Addr} {t : List Nat} (A : own_T Z h a t) (hl : t.length = 4) {n0 : Nat} (N : Fr n0 locs) (ga : n0 ≤ a) {i y : Nat} (hi : i < 4) {j x : Int32} (ej : j = Int32.ofNat i) (ex : x = Int32.ofNat y) {g : JFrame} (hg : g.method = m) {rest : List Value} (hs : g.stack = .int x :: .int j :: .ref a :: rest) (hd : decode c.code g.pc = .ok (.iastore, 1)) :
    ∃ (T' : State) (h' : Heap) (locs' : List Loc), Stand p l e R s m args below meth c T' locs' cells slots ∧ T'.heap = h' ∧ Fr n0 locs' ∧ own_T Z h' a (t.set i y) ∧ Keep h h' [a] ∧ ∀ target, Steps p.tables e below (T'.setTop { g with pc := g.pc + 1, stack := rest }) target → Steps p.tables e below (T.setTop g) target := by
  subst ej ex
  obtain ⟨T', h', L', X', e', N', ⟨cl, Ar, S, V⟩, K', st⟩ := own_put X hx hZ eT A N ga (own_nn hi) (by rw [own_n32 hi, hl]; exact hi) hg hs hd
  refine ⟨T', h', L', X', e', N', ⟨cl, Ar, by rw [List.length_set]; exact S, fun q hq => ?_⟩, K', st⟩
  rw [List.length_set] at hq
  rw [V q hq]
  show some (Value.int (if q = (Int32.ofNat i).toNatClampNeg then Int32.ofNat y else Int32.ofNat (t.getD q 0))) = some (Value.int (Int32.ofNat ((t.set i y).getD q 0)))
  rw [own_n32 hi, own_setD _ _ _ _ (by omega)]
  by_cases z : q = i
  · rw [if_pos z, if_pos z]
  · rw [if_neg z, if_neg z]
set_option maxHeartbeats 4000000 in
theorem own_newT {p : Program} {l : Launch} {e : Env} {R : Room} {s : State} {m : MethodId} {args : Array Value} {below : List Frame} {meth : Method} {c : Code} {T : State} {locs : List Loc} {cells slots : Nat} {Z : State} (X : Stand p l e R s m args below meth c T locs cells slots) (hx : p.tables.exec = Jvm.exec) (hZ : Z.Warmed39 s.vm) {h : Heap} (eT : T.heap = h) {a0 : Array Value} (w : (Cond.arrayClass .int).before a0 Z = true) {g : JFrame} (hg : g.method = m) (hd : decode c.code g.pc = .ok (.newarray .int, 2)) {rest : List Value} (hs : g.stack = .int (4 : Int32) :: rest) (hc : cells + 1 ≤ R.cells) (hl : slots + 4 ≤ R.slots) :
    ∃ (T' : State) (h' : Heap), Stand p l e R s m args below meth c T' locs (cells + 1) (slots + 4) ∧ T'.heap = h' ∧ Ext h h' ∧ own_T Z h' h.size [0, 0, 0, 0] ∧ ∀ target, Steps p.tables e below (T'.setTop { g with pc := g.pc + 2, stack := .ref h.size :: rest }) target → Steps p.tables e below (T.setTop g) target := by
  obtain ⟨T', h', X', e', E', ⟨cl, Ar, S, V⟩, st⟩ := own_new X hx hZ eT w hg hd hs (by decide) (k := 4) rfl (by decide) hc hl
  refine ⟨T', h', X', e', E', ⟨cl, Ar, S, fun j hj => ?_⟩, st⟩
  match j, hj with
  | 0, _ => exact V 0 (by decide)
  | 1, _ => exact V 1 (by decide)
  | 2, _ => exact V 2 (by decide)
  | 3, _ => exact V 3 (by decide)
theorem pd_I_I : parseMethodDescriptor "(I)I" = some ⟨[.int], some .int⟩ := by decide +kernel
theorem pd_II_I : parseMethodDescriptor "(II)I" = some ⟨[.int, .int], some .int⟩ := by decide +kernel
theorem pd_II_V : parseMethodDescriptor "(II)V" = some ⟨[.int, .int], none⟩ := by decide +kernel
theorem pd_I_V : parseMethodDescriptor "(I)V" = some ⟨[.int], none⟩ := by decide +kernel
theorem pd_AII_V : parseMethodDescriptor "([III)V" = some ⟨[.array .int, .int, .int], none⟩ := by decide +kernel
theorem pn_J : plainName "com/example/spurion/spurion/semantics/Joins" = true := by first | (simp [plainName, overriddenIn]; done) | decide +kernel
theorem d6_0 : decode jdk_29_method_69_code 0 = .ok (.iload_n 0, 1) := by decide +kernel
theorem d6_1 : decode jdk_29_method_69_code 1 = .ok (.iload_n 1, 1) := by decide +kernel
theorem d6_2 : decode jdk_29_method_69_code 2 = .ok (.if_icmp .gt 7, 3) := by decide +kernel
theorem d6_5 : decode jdk_29_method_69_code 5 = .ok (.iload_n 0, 1) := by decide +kernel
theorem d6_6 : decode jdk_29_method_69_code 6 = .ok (.goto 4, 3) := by decide +kernel
theorem d6_9 : decode jdk_29_method_69_code 9 = .ok (.iload_n 1, 1) := by decide +kernel
theorem d6_10 : decode jdk_29_method_69_code 10 = .ok (.ireturn, 1) := by decide +kernel
theorem ef_6 (m : MethodId) (x0 : Int32) (x1 : Int32) : entryFrame m #[(.int x0), (.int x1)] 2 = mkF m 0 #[.val (.int x0), .val (.int x1)] [] := by first | (simp [entryFrame, mkF, argsToLocals, Value.category]; done) | rfl
def v6 (p1 p2 : Int32) : Int32 := (if p2 < p1 then p2 else p1)
theorem v6_nat {a b : Nat} (ha : a < 4) (hb : b < 4) : v6 (Int32.ofNat a) (Int32.ofNat b) = Int32.ofNat (min a b) := by
  unfold v6
  by_cases q : b < a
  · rw [if_pos ((own_lt hb ha).mpr q)]
    congr 1
    omega
  · rw [if_neg (fun z => q ((own_lt hb ha).mp z))]
    congr 1
    omega
def Q6 (p1 p2 : Int32) (h0 : Heap) (n0 : Nat) (v : Option Value) (h : Heap) (L : List Loc) : Prop := v = some (.int (v6 p1 p2)) ∧ Fr n0 L ∧ h = h0
set_option maxRecDepth 65536 in
set_option maxHeartbeats 40000000 in
theorem rm6 (l : Launch) (Z : State) (a0 : Array Value) (hw : ∀ d ∈ tables_1, d.before a0 Z = true) (ws : List Jvm.Cond) (p1 p2 : Int32) (h0 : Heap) (n0 : Nat) :
    MetFree l (⟨"java/lang/Math", "min", "(II)I"⟩ : MethodName) (head1 (Jvm.Cond.code (⟨"java/lang/Math", "min", "(II)I"⟩ : MethodName) jdk_29_method_69_code 2 (some .int) :: ws) ({ frames := 0, cells := 0, slots := 0, locals := 0 } : Room)) (fun a U => a = #[(.int p1), (.int p2)] ∧ Z.Warmed39 U.vm ∧ U.heap = h0) (fun _ _ _ _ _ => True) (fun _ U oc U' => ∃ v L, oc = .returned v ∧ Q6 p1 p2 h0 n0 v U'.heap L ∧ FrameEnd U oc U' L ({ frames := 0, cells := 0, slots := 0, locals := 0 } : Room).cells ({ frames := 0, cells := 0, slots := 0, locals := 0 } : Room).slots) := by
  refine MetFree.of_bodySF (Jvm.Free.JP.mathPlain rfl (by decide +kernel)) hisR ?_
  intro p e s m args below meth c s₁ Bd hml0 hP hK
  obtain ⟨rfl, hZ, hh⟩ := hP
  have hx := Bd.exec
  have hby := Bd.bytes
  have hml : c.maxLocals = 2 := hml0
  have hown : s.vm.findClass "java/lang/Math" = some m.cls := findClass_of_methodNamed Bd.named
  have hnm := (name_of_methodNamed Bd.named Bd.method).1
  have X0 : Stand p l e ({ frames := 0, cells := 0, slots := 0, locals := 0 } : Room) s m #[(.int p1), (.int p2)] below meth c s₁ [] 0 0 := Stand.of_body Bd
  have e0 : s₁.heap = h0 := by rw [← hh, Bd.state]; rfl
  have N0 := Fr.nil n0
  have pre0 : ∀ t, Steps p.tables e below (s₁.setTop (mkF m 0 #[.val (.int p1), .val (.int p2)] [])) t → Steps p.tables e below (s₁.setTop (entryFrame m #[(.int p1), (.int p2)] 2)) t := fun t k => castTop (ef_6 m (p1) (p2)) k
  obtain ⟨fs, hr, hrun, hended, hW, hsame⟩ := X0.leave (v := some (.int (v6 p1 p2))) (fun h => by rw [Bd.returns] at h; cases h)
  refine ⟨_, _, pre0 _ ?_, hrun, hended, _, _, rfl, ?_, ⟨_, rfl⟩, hW, hsame.mono (by decide) (by decide)⟩
  · have hv : (if p2 < p1 then p2 else p1) = v6 p1 p2 := rfl
    show Steps p.tables e below (s₁.setTop (mkF m 0 #[.val (.int p1), .val (.int p2)] [])) _
    refine XS.iloadN X0.here hx rfl (hb hby d6_0) rfl ?_
    show Steps p.tables e below (s₁.setTop (mkF m 1 #[.val (.int p1), .val (.int p2)] [(.int p1)])) _
    refine XS.iloadN X0.here hx rfl (hb hby d6_1) rfl ?_
    show Steps p.tables e below (s₁.setTop (mkF m 2 #[.val (.int p1), .val (.int p2)] [(.int p2), (.int p1)])) _
    by_cases hc : p2 < p1
    · rw [if_pos hc] at hv
      rw [← hv] at hr
      refine XS.icmpYes X0.here hx rfl (pc0 := 2) (pc' := 9) rfl (hb hby d6_2) rfl (tlt hc).2.2.1 (by decide) (by decide) ?_
      show Steps p.tables e below (s₁.setTop (mkF m 9 #[.val (.int p1), .val (.int p2)] [])) _
      refine XS.iloadN X0.here hx rfl (hb hby d6_9) rfl ?_
      show Steps p.tables e below (s₁.setTop (mkF m 10 #[.val (.int p1), .val (.int p2)] [(.int p2)])) _
      exact retI X0 hx Bd.returns (hb hby d6_10) hr
    · rw [if_neg hc] at hv
      rw [← hv] at hr
      refine XS.icmpNo X0.here hx rfl (hb hby d6_2) rfl (flt hc).2.2.1 ?_
      show Steps p.tables e below (s₁.setTop (mkF m 5 #[.val (.int p1), .val (.int p2)] [])) _
      refine XS.iloadN X0.here hx rfl (hb hby d6_5) rfl ?_
      show Steps p.tables e below (s₁.setTop (mkF m 6 #[.val (.int p1), .val (.int p2)] [(.int p1)])) _
      refine XS.goto X0.here hx rfl (pc0 := 6) (pc' := 10) rfl (hb hby d6_6) (by decide) (by decide) ?_
      show Steps p.tables e below (s₁.setTop (mkF m 10 #[.val (.int p1), .val (.int p2)] [(.int p1)])) _
      exact retI X0 hx Bd.returns (hb hby d6_10) hr
  · show Q6 p1 p2 h0 n0 _ s₁.heap _
    rw [e0]
    exact ⟨rfl, N0, rfl⟩
theorem d7_0 : decode jdk_29_method_65_code 0 = .ok (.iload_n 0, 1) := by decide +kernel
theorem d7_1 : decode jdk_29_method_65_code 1 = .ok (.iload_n 1, 1) := by decide +kernel
theorem d7_2 : decode jdk_29_method_65_code 2 = .ok (.if_icmp .lt 7, 3) := by decide +kernel
theorem d7_5 : decode jdk_29_method_65_code 5 = .ok (.iload_n 0, 1) := by decide +kernel
theorem d7_6 : decode jdk_29_method_65_code 6 = .ok (.goto 4, 3) := by decide +kernel
theorem d7_9 : decode jdk_29_method_65_code 9 = .ok (.iload_n 1, 1) := by decide +kernel
theorem d7_10 : decode jdk_29_method_65_code 10 = .ok (.ireturn, 1) := by decide +kernel
theorem ef_7 (m : MethodId) (x0 : Int32) (x1 : Int32) : entryFrame m #[(.int x0), (.int x1)] 2 = mkF m 0 #[.val (.int x0), .val (.int x1)] [] := by first | (simp [entryFrame, mkF, argsToLocals, Value.category]; done) | rfl
def v7 (p1 p2 : Int32) : Int32 := (if p1 < p2 then p2 else p1)
theorem v7_nat {a b : Nat} (ha : a < 4) (hb : b < 4) : v7 (Int32.ofNat a) (Int32.ofNat b) = Int32.ofNat (max a b) := by
  unfold v7
  by_cases q : a < b
  · rw [if_pos ((own_lt ha hb).mpr q)]
    congr 1
    omega
  · rw [if_neg (fun z => q ((own_lt ha hb).mp z))]
    congr 1
    omega
def Q7 (p1 p2 : Int32) (h0 : Heap) (n0 : Nat) (v : Option Value) (h : Heap) (L : List Loc) : Prop := v = some (.int (v7 p1 p2)) ∧ Fr n0 L ∧ h = h0
set_option maxRecDepth 65536 in
set_option maxHeartbeats 40000000 in
theorem rm7 (l : Launch) (Z : State) (a0 : Array Value) (hw : ∀ d ∈ tables_1, d.before a0 Z = true) (ws : List Jvm.Cond) (p1 p2 : Int32) (h0 : Heap) (n0 : Nat) :
    MetFree l (⟨"java/lang/Math", "max", "(II)I"⟩ : MethodName) (head1 (Jvm.Cond.code (⟨"java/lang/Math", "max", "(II)I"⟩ : MethodName) jdk_29_method_65_code 2 (some .int) :: ws) ({ frames := 0, cells := 0, slots := 0, locals := 0 } : Room)) (fun a U => a = #[(.int p1), (.int p2)] ∧ Z.Warmed39 U.vm ∧ U.heap = h0) (fun _ _ _ _ _ => True) (fun _ U oc U' => ∃ v L, oc = .returned v ∧ Q7 p1 p2 h0 n0 v U'.heap L ∧ FrameEnd U oc U' L ({ frames := 0, cells := 0, slots := 0, locals := 0 } : Room).cells ({ frames := 0, cells := 0, slots := 0, locals := 0 } : Room).slots) := by
  refine MetFree.of_bodySF (Jvm.Free.JP.mathPlain rfl (by decide +kernel)) hisR ?_
  intro p e s m args below meth c s₁ Bd hml0 hP hK
  obtain ⟨rfl, hZ, hh⟩ := hP
  have hx := Bd.exec
  have hby := Bd.bytes
  have hml : c.maxLocals = 2 := hml0
  have hown : s.vm.findClass "java/lang/Math" = some m.cls := findClass_of_methodNamed Bd.named
  have hnm := (name_of_methodNamed Bd.named Bd.method).1
  have X0 : Stand p l e ({ frames := 0, cells := 0, slots := 0, locals := 0 } : Room) s m #[(.int p1), (.int p2)] below meth c s₁ [] 0 0 := Stand.of_body Bd
  have e0 : s₁.heap = h0 := by rw [← hh, Bd.state]; rfl
  have N0 := Fr.nil n0
  have pre0 : ∀ t, Steps p.tables e below (s₁.setTop (mkF m 0 #[.val (.int p1), .val (.int p2)] [])) t → Steps p.tables e below (s₁.setTop (entryFrame m #[(.int p1), (.int p2)] 2)) t := fun t k => castTop (ef_7 m (p1) (p2)) k
  obtain ⟨fs, hr, hrun, hended, hW, hsame⟩ := X0.leave (v := some (.int (v7 p1 p2))) (fun h => by rw [Bd.returns] at h; cases h)
  refine ⟨_, _, pre0 _ ?_, hrun, hended, _, _, rfl, ?_, ⟨_, rfl⟩, hW, hsame.mono (by decide) (by decide)⟩
  · have hv : (if p1 < p2 then p2 else p1) = v7 p1 p2 := rfl
    show Steps p.tables e below (s₁.setTop (mkF m 0 #[.val (.int p1), .val (.int p2)] [])) _
    refine XS.iloadN X0.here hx rfl (hb hby d7_0) rfl ?_
    show Steps p.tables e below (s₁.setTop (mkF m 1 #[.val (.int p1), .val (.int p2)] [(.int p1)])) _
    refine XS.iloadN X0.here hx rfl (hb hby d7_1) rfl ?_
    show Steps p.tables e below (s₁.setTop (mkF m 2 #[.val (.int p1), .val (.int p2)] [(.int p2), (.int p1)])) _
    by_cases hc : p1 < p2
    · rw [if_pos hc] at hv
      rw [← hv] at hr
      refine XS.icmpYes X0.here hx rfl (pc0 := 2) (pc' := 9) rfl (hb hby d7_2) rfl (tlt hc).1 (by decide) (by decide) ?_
      show Steps p.tables e below (s₁.setTop (mkF m 9 #[.val (.int p1), .val (.int p2)] [])) _
      refine XS.iloadN X0.here hx rfl (hb hby d7_9) rfl ?_
      show Steps p.tables e below (s₁.setTop (mkF m 10 #[.val (.int p1), .val (.int p2)] [(.int p2)])) _
      exact retI X0 hx Bd.returns (hb hby d7_10) hr
    · rw [if_neg hc] at hv
      rw [← hv] at hr
      refine XS.icmpNo X0.here hx rfl (hb hby d7_2) rfl (flt hc).1 ?_
      show Steps p.tables e below (s₁.setTop (mkF m 5 #[.val (.int p1), .val (.int p2)] [])) _
      refine XS.iloadN X0.here hx rfl (hb hby d7_5) rfl ?_
      show Steps p.tables e below (s₁.setTop (mkF m 6 #[.val (.int p1), .val (.int p2)] [(.int p1)])) _
      refine XS.goto X0.here hx rfl (pc0 := 6) (pc' := 10) rfl (hb hby d7_6) (by decide) (by decide) ?_
      show Steps p.tables e below (s₁.setTop (mkF m 10 #[.val (.int p1), .val (.int p2)] [(.int p1)])) _
      exact retI X0 hx Bd.returns (hb hby d7_10) hr
  · show Q7 p1 p2 h0 n0 _ s₁.heap _
    rw [e0]
    exact ⟨rfl, N0, rfl⟩
theorem d4_0 : decode prog_256_method_3_code 0 = .ok (.iload_n 1, 1) := by decide +kernel
theorem d4_1 : decode prog_256_method_3_code 1 = .ok (.istore_n 2, 1) := by decide +kernel
theorem d4_2 : decode prog_256_method_3_code 2 = .ok (.aload_n 0, 1) := by decide +kernel
theorem d4_3 : decode prog_256_method_3_code 3 = .ok (.getfield 7, 3) := by decide +kernel
theorem d4_6 : decode prog_256_method_3_code 6 = .ok (.iload_n 2, 1) := by decide +kernel
theorem d4_7 : decode prog_256_method_3_code 7 = .ok (.iaload, 1) := by decide +kernel
theorem d4_8 : decode prog_256_method_3_code 8 = .ok (.iload_n 2, 1) := by decide +kernel
theorem d4_9 : decode prog_256_method_3_code 9 = .ok (.if_icmp .eq 30, 3) := by decide +kernel
theorem d4_12 : decode prog_256_method_3_code 12 = .ok (.aload_n 0, 1) := by decide +kernel
theorem d4_13 : decode prog_256_method_3_code 13 = .ok (.getfield 7, 3) := by decide +kernel
theorem d4_16 : decode prog_256_method_3_code 16 = .ok (.iload_n 2, 1) := by decide +kernel
theorem d4_17 : decode prog_256_method_3_code 17 = .ok (.aload_n 0, 1) := by decide +kernel
theorem d4_18 : decode prog_256_method_3_code 18 = .ok (.getfield 7, 3) := by decide +kernel
theorem d4_21 : decode prog_256_method_3_code 21 = .ok (.aload_n 0, 1) := by decide +kernel
theorem d4_22 : decode prog_256_method_3_code 22 = .ok (.getfield 7, 3) := by decide +kernel
theorem d4_25 : decode prog_256_method_3_code 25 = .ok (.iload_n 2, 1) := by decide +kernel
theorem d4_26 : decode prog_256_method_3_code 26 = .ok (.iaload, 1) := by decide +kernel
theorem d4_27 : decode prog_256_method_3_code 27 = .ok (.iaload, 1) := by decide +kernel
theorem d4_28 : decode prog_256_method_3_code 28 = .ok (.iastore, 1) := by decide +kernel
theorem d4_29 : decode prog_256_method_3_code 29 = .ok (.aload_n 0, 1) := by decide +kernel
theorem d4_30 : decode prog_256_method_3_code 30 = .ok (.getfield 7, 3) := by decide +kernel
theorem d4_33 : decode prog_256_method_3_code 33 = .ok (.iload_n 2, 1) := by decide +kernel
theorem d4_34 : decode prog_256_method_3_code 34 = .ok (.iaload, 1) := by decide +kernel
theorem d4_35 : decode prog_256_method_3_code 35 = .ok (.istore_n 2, 1) := by decide +kernel
theorem d4_36 : decode prog_256_method_3_code 36 = .ok (.goto (-34), 3) := by decide +kernel
theorem d4_39 : decode prog_256_method_3_code 39 = .ok (.iload_n 2, 1) := by decide +kernel
theorem d4_40 : decode prog_256_method_3_code 40 = .ok (.ireturn, 1) := by decide +kernel
theorem ef_4 (m : MethodId) (x0 : Addr) (x1 : Int32) : entryFrame m #[(.ref x0), (.int x1)] 3 = mkF m 0 #[.val (.ref x0), .val (.int x1), .unset] [] := by first | (simp [entryFrame, mkF, argsToLocals, Value.category]; done) | rfl
set_option maxRecDepth 65536 in
set_option maxHeartbeats 40000000 in
theorem tn4 {p : Program} {l : Launch} {e : Env} {R : Room} {s : State} {m : MethodId} {args : Array Value} {below : List Frame} {meth : Method} {c : Code} {T0 : State} {locs : List Loc} {cells slots : Nat} {Z : State} {a0 : Array Value} {h0 : Heap} (X0 : Stand p l e R s m args below meth c T0 locs cells slots) (hx : p.tables.exec = Jvm.exec) (hZ : Z.Warmed39 s.vm) (hw : ∀ d ∈ tables_1, d.before a0 Z = true) (hby : c.code = prog_256_method_3_code) (hown : s.vm.findClass "com/example/spurion/spurion/semantics/Joins" = some m.cls) (e0 : T0.heap = h0) (o w : Addr) (s1 : Slot) (i : Nat) (t : List Nat) (n0 : Nat) (Ok : own_Ok t) (hi : i < 4) (F : Fld Z h0 o "com/example/spurion/spurion/semantics/Joins" "towards" "[I" (.ref w)) (A : own_T Z h0 w t) (gw : n0 ≤ w) (ne : o ≠ w) (N0 : Fr n0 locs) (hc : ¬ t.getD i 0 = i) :
    ∃ (T' : State) (h' : Heap) (locs' : List Loc), Stand p l e R s m args below meth c T' locs' cells slots ∧ T'.heap = h' ∧ Fr n0 locs' ∧ own_T Z h' w (t.set i (t.getD (t.getD i 0) 0)) ∧ Keep h0 h' [w] ∧ ∀ target, Steps p.tables e below (T'.setTop (mkF m 2 #[.val (.ref o), s1, .val (.int (Int32.ofNat ((t.set i (t.getD (t.getD i 0) 0)).getD i 0)))] [])) target → Steps p.tables e below (T0.setTop (mkF m 2 #[.val (.ref o), s1, .val (.int (Int32.ofNat i))] [])) target := by
  obtain ⟨T11, X11, e11, st11⟩ := getF X0 hx hZ hown (host := "") (Or.inl (hw _ (List.mem_of_getElem? (i := 10) rfl))) Via.refl e0 F (g := (mkF m 3 #[.val (.ref o), s1, .val (.int (Int32.ofNat i))] [(.ref o)])) rfl rfl (hb hby d4_3)
  have st12 := own_getT X11 hx hZ e11 A Ok.1 hi rfl (g := (mkF m 7 #[.val (.ref o), s1, .val (.int (Int32.ofNat i))] [(.int (Int32.ofNat i)), (.ref w)])) rfl rfl (hb hby d4_7)
  obtain ⟨T13, X13, e13, st13⟩ := getF X11 hx hZ hown (host := "") (Or.inl (hw _ (List.mem_of_getElem? (i := 10) rfl))) Via.refl e11 F (g := (mkF m 13 #[.val (.ref o), s1, .val (.int (Int32.ofNat i))] [(.ref o)])) rfl rfl (hb hby d4_13)
  obtain ⟨T14, X14, e14, st14⟩ := getF X13 hx hZ hown (host := "") (Or.inl (hw _ (List.mem_of_getElem? (i := 10) rfl))) Via.refl e13 F (g := (mkF m 18 #[.val (.ref o), s1, .val (.int (Int32.ofNat i))] [(.ref o), (.int (Int32.ofNat i)), (.ref w)])) rfl rfl (hb hby d4_18)
  obtain ⟨T15, X15, e15, st15⟩ := getF X14 hx hZ hown (host := "") (Or.inl (hw _ (List.mem_of_getElem? (i := 10) rfl))) Via.refl e14 F (g := (mkF m 22 #[.val (.ref o), s1, .val (.int (Int32.ofNat i))] [(.ref o), (.ref w), (.int (Int32.ofNat i)), (.ref w)])) rfl rfl (hb hby d4_22)
  have st16 := own_getT X15 hx hZ e15 A Ok.1 hi rfl (g := (mkF m 26 #[.val (.ref o), s1, .val (.int (Int32.ofNat i))] [(.int (Int32.ofNat i)), (.ref w), (.ref w), (.int (Int32.ofNat i)), (.ref w)])) rfl rfl (hb hby d4_26)
  have st17 := own_getT X15 hx hZ e15 A Ok.1 (own_lt4 Ok hi) rfl (g := (mkF m 27 #[.val (.ref o), s1, .val (.int (Int32.ofNat i))] [(.int (Int32.ofNat (t.getD i 0))), (.ref w), (.int (Int32.ofNat i)), (.ref w)])) rfl rfl (hb hby d4_27)
  obtain ⟨T18, h18, L18, X18, e18, N18, A18, K18, st18⟩ := own_putT X15 hx hZ e15 A Ok.1 N0 gw hi (y := (t.getD (t.getD i 0) 0)) rfl rfl (g := (mkF m 28 #[.val (.ref o), s1, .val (.int (Int32.ofNat i))] [(.int (Int32.ofNat (t.getD (t.getD i 0) 0))), (.int (Int32.ofNat i)), (.ref w)])) rfl rfl (hb hby d4_28)
  obtain ⟨T19, X19, e19, st19⟩ := getF X18 hx hZ hown (host := "") (Or.inl (hw _ (List.mem_of_getElem? (i := 10) rfl))) Via.refl e18 (F.keep K18 (own_nin ne)) (g := (mkF m 30 #[.val (.ref o), s1, .val (.int (Int32.ofNat i))] [(.ref o)])) rfl rfl (hb hby d4_30)
  have st20 := own_getT X19 hx hZ e19 A18 (own_set_ok Ok hi).1.1 hi rfl (g := (mkF m 34 #[.val (.ref o), s1, .val (.int (Int32.ofNat i))] [(.int (Int32.ofNat i)), (.ref w)])) rfl rfl (hb hby d4_34)
  refine ⟨T19, _, _, X19, e19, N18, A18, K18, fun target kt => ?_⟩
  show Steps p.tables e below (T0.setTop (mkF m 2 #[.val (.ref o), s1, .val (.int (Int32.ofNat i))] [])) _
  refine XS.aloadN X0.here hx rfl (hb hby d4_2) rfl rfl ?_
  show Steps p.tables e below (T0.setTop (mkF m 3 #[.val (.ref o), s1, .val (.int (Int32.ofNat i))] [(.ref o)])) _
  refine st11 _ ?_
  show Steps p.tables e below (T11.setTop (mkF m 6 #[.val (.ref o), s1, .val (.int (Int32.ofNat i))] [(.ref w)])) _
  refine XS.iloadN X11.here hx rfl (hb hby d4_6) rfl ?_
  show Steps p.tables e below (T11.setTop (mkF m 7 #[.val (.ref o), s1, .val (.int (Int32.ofNat i))] [(.int (Int32.ofNat i)), (.ref w)])) _
  refine st12 _ ?_
  show Steps p.tables e below (T11.setTop (mkF m 8 #[.val (.ref o), s1, .val (.int (Int32.ofNat i))] [(.int (Int32.ofNat (t.getD i 0)))])) _
  refine XS.iloadN X11.here hx rfl (hb hby d4_8) rfl ?_
  show Steps p.tables e below (T11.setTop (mkF m 9 #[.val (.ref o), s1, .val (.int (Int32.ofNat i))] [(.int (Int32.ofNat i)), (.int (Int32.ofNat (t.getD i 0)))])) _
  refine XS.icmpNo X11.here hx rfl (hb hby d4_9) rfl (feq (fun z => hc ((own_inj (own_lt4 Ok hi) hi).mp z))).1 ?_
  show Steps p.tables e below (T11.setTop (mkF m 12 #[.val (.ref o), s1, .val (.int (Int32.ofNat i))] [])) _
  refine XS.aloadN X11.here hx rfl (hb hby d4_12) rfl rfl ?_
  show Steps p.tables e below (T11.setTop (mkF m 13 #[.val (.ref o), s1, .val (.int (Int32.ofNat i))] [(.ref o)])) _
  refine st13 _ ?_
  show Steps p.tables e below (T13.setTop (mkF m 16 #[.val (.ref o), s1, .val (.int (Int32.ofNat i))] [(.ref w)])) _
  refine XS.iloadN X13.here hx rfl (hb hby d4_16) rfl ?_
  show Steps p.tables e below (T13.setTop (mkF m 17 #[.val (.ref o), s1, .val (.int (Int32.ofNat i))] [(.int (Int32.ofNat i)), (.ref w)])) _
  refine XS.aloadN X13.here hx rfl (hb hby d4_17) rfl rfl ?_
  show Steps p.tables e below (T13.setTop (mkF m 18 #[.val (.ref o), s1, .val (.int (Int32.ofNat i))] [(.ref o), (.int (Int32.ofNat i)), (.ref w)])) _
  refine st14 _ ?_
  show Steps p.tables e below (T14.setTop (mkF m 21 #[.val (.ref o), s1, .val (.int (Int32.ofNat i))] [(.ref w), (.int (Int32.ofNat i)), (.ref w)])) _
  refine XS.aloadN X14.here hx rfl (hb hby d4_21) rfl rfl ?_
  show Steps p.tables e below (T14.setTop (mkF m 22 #[.val (.ref o), s1, .val (.int (Int32.ofNat i))] [(.ref o), (.ref w), (.int (Int32.ofNat i)), (.ref w)])) _
  refine st15 _ ?_
  show Steps p.tables e below (T15.setTop (mkF m 25 #[.val (.ref o), s1, .val (.int (Int32.ofNat i))] [(.ref w), (.ref w), (.int (Int32.ofNat i)), (.ref w)])) _
  refine XS.iloadN X15.here hx rfl (hb hby d4_25) rfl ?_
  show Steps p.tables e below (T15.setTop (mkF m 26 #[.val (.ref o), s1, .val (.int (Int32.ofNat i))] [(.int (Int32.ofNat i)), (.ref w), (.ref w), (.int (Int32.ofNat i)), (.ref w)])) _
  refine st16 _ ?_
  show Steps p.tables e below (T15.setTop (mkF m 27 #[.val (.ref o), s1, .val (.int (Int32.ofNat i))] [(.int (Int32.ofNat (t.getD i 0))), (.ref w), (.int (Int32.ofNat i)), (.ref w)])) _
  refine st17 _ ?_
  show Steps p.tables e below (T15.setTop (mkF m 28 #[.val (.ref o), s1, .val (.int (Int32.ofNat i))] [(.int (Int32.ofNat (t.getD (t.getD i 0) 0))), (.int (Int32.ofNat i)), (.ref w)])) _
  refine st18 _ ?_
  show Steps p.tables e below (T18.setTop (mkF m 29 #[.val (.ref o), s1, .val (.int (Int32.ofNat i))] [])) _
  refine XS.aloadN X18.here hx rfl (hb hby d4_29) rfl rfl ?_
  show Steps p.tables e below (T18.setTop (mkF m 30 #[.val (.ref o), s1, .val (.int (Int32.ofNat i))] [(.ref o)])) _
  refine st19 _ ?_
  show Steps p.tables e below (T19.setTop (mkF m 33 #[.val (.ref o), s1, .val (.int (Int32.ofNat i))] [(.ref w)])) _
  refine XS.iloadN X19.here hx rfl (hb hby d4_33) rfl ?_
  show Steps p.tables e below (T19.setTop (mkF m 34 #[.val (.ref o), s1, .val (.int (Int32.ofNat i))] [(.int (Int32.ofNat i)), (.ref w)])) _
  refine st20 _ ?_
  show Steps p.tables e below (T19.setTop (mkF m 35 #[.val (.ref o), s1, .val (.int (Int32.ofNat i))] [(.int (Int32.ofNat ((t.set i (t.getD (t.getD i 0) 0)).getD i 0)))])) _
  refine XS.istoreN X19.here hx rfl (hb hby d4_35) rfl (l' := #[.val (.ref o), s1, .val (.int (Int32.ofNat ((t.set i (t.getD (t.getD i 0) 0)).getD i 0)))]) rfl ?_
  show Steps p.tables e below (T19.setTop (mkF m 36 #[.val (.ref o), s1, .val (.int (Int32.ofNat ((t.set i (t.getD (t.getD i 0) 0)).getD i 0)))] [])) _
  refine XS.goto X19.here hx rfl (pc0 := 36) (pc' := 2) rfl (hb hby d4_36) (by decide) (by decide) ?_
  show Steps p.tables e below (T19.setTop (mkF m 2 #[.val (.ref o), s1, .val (.int (Int32.ofNat ((t.set i (t.getD (t.getD i 0) 0)).getD i 0)))] [])) _
  exact kt
set_option maxRecDepth 65536 in
set_option maxHeartbeats 40000000 in
theorem tl4 {p : Program} {l : Launch} {e : Env} {R : Room} {s : State} {m : MethodId} {args : Array Value} {below : List Frame} {meth : Method} {c : Code} {T0 : State} {locs : List Loc} {cells slots : Nat} {Z : State} {a0 : Array Value} {h0 : Heap} (X0 : Stand p l e R s m args below meth c T0 locs cells slots) (hx : p.tables.exec = Jvm.exec) (hZ : Z.Warmed39 s.vm) (hw : ∀ d ∈ tables_1, d.before a0 Z = true) (hby : c.code = prog_256_method_3_code) (hown : s.vm.findClass "com/example/spurion/spurion/semantics/Joins" = some m.cls) (e0 : T0.heap = h0) (o w : Addr) (s1 : Slot) (i : Nat) (t : List Nat) (Ok : own_Ok t) (hi : i < 4) (F : Fld Z h0 o "com/example/spurion/spurion/semantics/Joins" "towards" "[I" (.ref w)) (A : own_T Z h0 w t) (hc : t.getD i 0 = i) :
    ∃ T' : State, Stand p l e R s m args below meth c T' locs cells slots ∧ T'.heap = h0 ∧ ∀ target, Steps p.tables e below (T'.setTop (mkF m 39 #[.val (.ref o), s1, .val (.int (Int32.ofNat i))] [])) target → Steps p.tables e below (T0.setTop (mkF m 2 #[.val (.ref o), s1, .val (.int (Int32.ofNat i))] [])) target := by
  obtain ⟨T11, X11, e11, st11⟩ := getF X0 hx hZ hown (host := "") (Or.inl (hw _ (List.mem_of_getElem? (i := 10) rfl))) Via.refl e0 F (g := (mkF m 3 #[.val (.ref o), s1, .val (.int (Int32.ofNat i))] [(.ref o)])) rfl rfl (hb hby d4_3)
  have st12 := own_getT X11 hx hZ e11 A Ok.1 hi rfl (g := (mkF m 7 #[.val (.ref o), s1, .val (.int (Int32.ofNat i))] [(.int (Int32.ofNat i)), (.ref w)])) rfl rfl (hb hby d4_7)
  refine ⟨T11, X11, e11, fun target kt => ?_⟩
  show Steps p.tables e below (T0.setTop (mkF m 2 #[.val (.ref o), s1, .val (.int (Int32.ofNat i))] [])) _
  refine XS.aloadN X0.here hx rfl (hb hby d4_2) rfl rfl ?_
  show Steps p.tables e below (T0.setTop (mkF m 3 #[.val (.ref o), s1, .val (.int (Int32.ofNat i))] [(.ref o)])) _
  refine st11 _ ?_
  show Steps p.tables e below (T11.setTop (mkF m 6 #[.val (.ref o), s1, .val (.int (Int32.ofNat i))] [(.ref w)])) _
  refine XS.iloadN X11.here hx rfl (hb hby d4_6) rfl ?_
  show Steps p.tables e below (T11.setTop (mkF m 7 #[.val (.ref o), s1, .val (.int (Int32.ofNat i))] [(.int (Int32.ofNat i)), (.ref w)])) _
  refine st12 _ ?_
  show Steps p.tables e below (T11.setTop (mkF m 8 #[.val (.ref o), s1, .val (.int (Int32.ofNat i))] [(.int (Int32.ofNat (t.getD i 0)))])) _
  refine XS.iloadN X11.here hx rfl (hb hby d4_8) rfl ?_
  show Steps p.tables e below (T11.setTop (mkF m 9 #[.val (.ref o), s1, .val (.int (Int32.ofNat i))] [(.int (Int32.ofNat i)), (.int (Int32.ofNat (t.getD i 0)))])) _
  refine XS.icmpYes X11.here hx rfl (pc0 := 9) (pc' := 39) rfl (hb hby d4_9) rfl (teq ((own_inj (own_lt4 Ok hi) hi).mpr hc)).1 (by decide) (by decide) ?_
  show Steps p.tables e below (T11.setTop (mkF m 39 #[.val (.ref o), s1, .val (.int (Int32.ofNat i))] [])) _
  exact kt
set_option maxHeartbeats 4000000 in
theorem loop4 {p : Program} {l : Launch} {e : Env} {R : Room} {s : State} {m : MethodId} {args : Array Value} {below : List Frame} {meth : Method} {c : Code} {cells slots : Nat} {Z : State} {a0 : Array Value} (hx : p.tables.exec = Jvm.exec) (hZ : Z.Warmed39 s.vm) (hw : ∀ d ∈ tables_1, d.before a0 Z = true) (hby : c.code = prog_256_method_3_code) (hown : s.vm.findClass "com/example/spurion/spurion/semantics/Joins" = some m.cls) (o w : Addr) (s1 : Slot) (n0 : Nat) (gw : n0 ≤ w) (ne : o ≠ w) :
    ∀ (k i : Nat) (t : List Nat) (T0 : State) (h0 : Heap) (locs : List Loc), i ≤ k → i < 4 → own_Ok t → Stand p l e R s m args below meth c T0 locs cells slots → T0.heap = h0 → Fr n0 locs → Fld Z h0 o "com/example/spurion/spurion/semantics/Joins" "towards" "[I" (.ref w) → own_T Z h0 w t →
      ∃ (T' : State) (h' : Heap) (locs' : List Loc), Stand p l e R s m args below meth c T' locs' cells slots ∧ T'.heap = h' ∧ Fr n0 locs' ∧ own_T Z h' w (own_loop k t i).1 ∧ Keep h0 h' [w] ∧ ∀ target, Steps p.tables e below (T'.setTop (mkF m 39 #[.val (.ref o), s1, .val (.int (Int32.ofNat (own_loop k t i).2))] [])) target → Steps p.tables e below (T0.setTop (mkF m 2 #[.val (.ref o), s1, .val (.int (Int32.ofNat i))] [])) target := by
  intro k
  induction k with
  | zero =>
    intro i t T0 h0 locs hk hi Ok X0 e0 N0 F A
    have hc : t.getD i 0 = i := by
      have := Ok.2 i hi
      omega
    obtain ⟨T1, X1, e1, st1⟩ := tl4 X0 hx hZ hw hby hown e0 o w s1 i t Ok hi F A hc
    exact ⟨T1, h0, locs, X1, e1, N0, A, Keep.refl _ _, st1⟩
  | succ k ih =>
    intro i t T0 h0 locs hk hi Ok X0 e0 N0 F A
    by_cases hc : t.getD i 0 = i
    · obtain ⟨T1, X1, e1, st1⟩ := tl4 X0 hx hZ hw hby hown e0 o w s1 i t Ok hi F A hc
      have hl : own_loop (k + 1) t i = (t, i) := by
        rw [own_loop, if_pos hc]
      rw [hl]
      exact ⟨T1, h0, locs, X1, e1, N0, A, Keep.refl _ _, st1⟩
    · obtain ⟨T1, h1, L1, X1, e1, N1, A1, K1, st1⟩ := tn4 X0 hx hZ hw hby hown e0 o w s1 i t n0 Ok hi F A gw ne N0 hc
      have hl : own_loop (k + 1) t i = own_loop k (t.set i (t.getD (t.getD i 0) 0)) ((t.set i (t.getD (t.getD i 0) 0)).getD i 0) := by
        rw [own_loop, if_neg hc]
      have h1' := own_set_ok Ok hi
      have h2' := Ok.2 i hi
      obtain ⟨T2, h2, L2, X2, e2, N2, A2, K2, st2⟩ := ih ((t.set i (t.getD (t.getD i 0) 0)).getD i 0) (t.set i (t.getD (t.getD i 0) 0)) T1 h1 L1 (by omega) (by omega) h1'.1 X1 e1 N1 (F.keep K1 (own_nin ne)) A1
      rw [hl]
      exact ⟨T2, h2, L2, X2, e2, N2, A2, own_k1 K1 K2, fun target kt => st1 target (st2 target kt)⟩
def Q4 (Z : State) (w : Addr) (t : List Nat) (i : Nat) (h0 : Heap) (n0 : Nat) (v : Option Value) (h : Heap) (L : List Loc) : Prop := v = some (.int (Int32.ofNat (own_loop 3 t i).2)) ∧ Fr n0 L ∧ Keep h0 h [w] ∧ own_T Z h w (own_loop 3 t i).1
set_option maxRecDepth 65536 in
set_option maxHeartbeats 40000000 in
theorem rm4 (l : Launch) (Z : State) (a0 : Array Value) (hw : ∀ d ∈ tables_1, d.before a0 Z = true) (ws : List Jvm.Cond) (o w : Addr) (t : List Nat) (i : Nat) (h0 : Heap) (n0 : Nat) (Ok : own_Ok t) (hi : i < 4) (F : Fld Z h0 o "com/example/spurion/spurion/semantics/Joins" "towards" "[I" (.ref w)) (A : own_T Z h0 w t) (gw : n0 ≤ w) (ne : o ≠ w) :
    MetFree l (⟨"com/example/spurion/spurion/semantics/Joins", "named", "(I)I"⟩ : MethodName) (head1 (Jvm.Cond.code (⟨"com/example/spurion/spurion/semantics/Joins", "named", "(I)I"⟩ : MethodName) prog_256_method_3_code 3 (some .int) :: ws) ({ frames := 0, cells := 0, slots := 0, locals := 0 } : Room)) (fun a U => a = #[(.ref o), (.int (Int32.ofNat i))] ∧ Z.Warmed39 U.vm ∧ U.heap = h0) (fun _ _ _ _ _ => True) (fun _ U oc U' => ∃ v L, oc = .returned v ∧ Q4 Z w t i h0 n0 v U'.heap L ∧ FrameEnd U oc U' L ({ frames := 0, cells := 0, slots := 0, locals := 0 } : Room).cells ({ frames := 0, cells := 0, slots := 0, locals := 0 } : Room).slots) := by
  refine MetFree.of_bodySF (plainFor_of_name pn_J) hisR ?_
  intro p e s m args below meth c s₁ Bd hml0 hP hK
  obtain ⟨rfl, hZ, hh⟩ := hP
  have hx := Bd.exec
  have hby := Bd.bytes
  have hml : c.maxLocals = 3 := hml0
  have hown : s.vm.findClass "com/example/spurion/spurion/semantics/Joins" = some m.cls := findClass_of_methodNamed Bd.named
  have hnm := (name_of_methodNamed Bd.named Bd.method).1
  have X0 : Stand p l e ({ frames := 0, cells := 0, slots := 0, locals := 0 } : Room) s m #[(.ref o), (.int (Int32.ofNat i))] below meth c s₁ [] 0 0 := Stand.of_body Bd
  have e0 : s₁.heap = h0 := by rw [← hh, Bd.state]; rfl
  have N0 := Fr.nil n0
  have pre0 : ∀ t, Steps p.tables e below (s₁.setTop (mkF m 0 #[.val (.ref o), .val (.int (Int32.ofNat i)), .unset] [])) t → Steps p.tables e below (s₁.setTop (entryFrame m #[(.ref o), (.int (Int32.ofNat i))] 3)) t := fun t k => castTop (ef_4 m o ((Int32.ofNat i))) k
  obtain ⟨T1, h1, L1, X1, e1, N1, A1, K1, st1⟩ := loop4 hx hZ hw hby hown o w (.val (.int (Int32.ofNat i))) n0 gw ne 3 i t s₁ h0 [] (by omega) hi Ok X0 e0 N0 F A
  obtain ⟨fs, hr, hrun, hended, hW, hsame⟩ := X1.leave (v := some (.int (Int32.ofNat (own_loop 3 t i).2))) (fun h => by rw [Bd.returns] at h; cases h)
  refine ⟨_, _, pre0 _ ?_, hrun, hended, _, _, rfl, ?_, ⟨_, rfl⟩, hW, hsame.mono (by decide) (by decide)⟩
  · show Steps p.tables e below (s₁.setTop (mkF m 0 #[.val (.ref o), .val (.int (Int32.ofNat i)), .unset] [])) _
    refine XS.iloadN X0.here hx rfl (hb hby d4_0) rfl ?_
    show Steps p.tables e below (s₁.setTop (mkF m 1 #[.val (.ref o), .val (.int (Int32.ofNat i)), .unset] [(.int (Int32.ofNat i))])) _
    refine XS.istoreN X0.here hx rfl (hb hby d4_1) rfl (l' := #[.val (.ref o), .val (.int (Int32.ofNat i)), .val (.int (Int32.ofNat i))]) rfl ?_
    show Steps p.tables e below (s₁.setTop (mkF m 2 #[.val (.ref o), .val (.int (Int32.ofNat i)), .val (.int (Int32.ofNat i))] [])) _
    refine st1 _ ?_
    show Steps p.tables e below (T1.setTop (mkF m 39 #[.val (.ref o), .val (.int (Int32.ofNat i)), .val (.int (Int32.ofNat (own_loop 3 t i).2))] [])) _
    refine XS.iloadN X1.here hx rfl (hb hby d4_39) rfl ?_
    show Steps p.tables e below (T1.setTop (mkF m 40 #[.val (.ref o), .val (.int (Int32.ofNat i)), .val (.int (Int32.ofNat (own_loop 3 t i).2))] [(.int (Int32.ofNat (own_loop 3 t i).2))])) _
    exact retI X1 hx Bd.returns (hb hby d4_40) hr
  · show Q4 Z w t i h0 n0 _ T1.heap _
    rw [e1]
    exact ⟨rfl, N1, K1, A1⟩
theorem d3_0 : decode prog_256_method_2_code 0 = .ok (.aload_n 0, 1) := by decide +kernel
theorem d3_1 : decode prog_256_method_2_code 1 = .ok (.iload_n 1, 1) := by decide +kernel
theorem d3_2 : decode prog_256_method_2_code 2 = .ok (.invokevirtual 13, 3) := by decide +kernel
theorem d3_5 : decode prog_256_method_2_code 5 = .ok (.istore_n 3, 1) := by decide +kernel
theorem d3_6 : decode prog_256_method_2_code 6 = .ok (.aload_n 0, 1) := by decide +kernel
theorem d3_7 : decode prog_256_method_2_code 7 = .ok (.iload_n 2, 1) := by decide +kernel
theorem d3_8 : decode prog_256_method_2_code 8 = .ok (.invokevirtual 13, 3) := by decide +kernel
theorem d3_11 : decode prog_256_method_2_code 11 = .ok (.istore 4, 2) := by decide +kernel
theorem d3_13 : decode prog_256_method_2_code 13 = .ok (.iload_n 3, 1) := by decide +kernel
theorem d3_14 : decode prog_256_method_2_code 14 = .ok (.iload 4, 2) := by decide +kernel
theorem d3_16 : decode prog_256_method_2_code 16 = .ok (.if_icmp .eq 20, 3) := by decide +kernel
theorem d3_19 : decode prog_256_method_2_code 19 = .ok (.aload_n 0, 1) := by decide +kernel
theorem d3_20 : decode prog_256_method_2_code 20 = .ok (.getfield 7, 3) := by decide +kernel
theorem d3_23 : decode prog_256_method_2_code 23 = .ok (.iload_n 3, 1) := by decide +kernel
theorem d3_24 : decode prog_256_method_2_code 24 = .ok (.iload 4, 2) := by decide +kernel
theorem d3_26 : decode prog_256_method_2_code 26 = .ok (.invokestatic 17, 3) := by decide +kernel
theorem d3_29 : decode prog_256_method_2_code 29 = .ok (.iload_n 3, 1) := by decide +kernel
theorem d3_30 : decode prog_256_method_2_code 30 = .ok (.iload 4, 2) := by decide +kernel
theorem d3_32 : decode prog_256_method_2_code 32 = .ok (.invokestatic 23, 3) := by decide +kernel
theorem d3_35 : decode prog_256_method_2_code 35 = .ok (.iastore, 1) := by decide +kernel
theorem d3_36 : decode prog_256_method_2_code 36 = .ok (.return_, 1) := by decide +kernel
theorem ef_3 (m : MethodId) (x0 : Addr) (x1 : Int32) (x2 : Int32) : entryFrame m #[(.ref x0), (.int x1), (.int x2)] 5 = mkF m 0 #[.val (.ref x0), .val (.int x1), .val (.int x2), .unset, .unset] [] := by first | (simp [entryFrame, mkF, argsToLocals, Value.category]; done) | rfl
def Q3 (Z : State) (w : Addr) (t : List Nat) (i j : Nat) (h0 : Heap) (n0 : Nat) (v : Option Value) (h : Heap) (L : List Loc) : Prop := v = none ∧ Fr n0 L ∧ Keep h0 h [w] ∧ own_T Z h w (own_union t i j)
set_option maxRecDepth 65536 in
set_option maxHeartbeats 40000000 in
theorem rm3 (l : Launch) (Z : State) (a0 : Array Value) (hw : ∀ d ∈ tables_1, d.before a0 Z = true) (ws : List Jvm.Cond) (o w : Addr) (t : List Nat) (i j : Nat) (h0 : Heap) (n0 : Nat) (Ok : own_Ok t) (hi : i < 4) (hj : j < 4) (E : Exa Z h0 o "com/example/spurion/spurion/semantics/Joins") (F : Fld Z h0 o "com/example/spurion/spurion/semantics/Joins" "towards" "[I" (.ref w)) (A : own_T Z h0 w t) (gw : n0 ≤ w) (ne : o ≠ w) :
    MetFree l (⟨"com/example/spurion/spurion/semantics/Joins", "union", "(II)V"⟩ : MethodName) (head1 (Jvm.Cond.code (⟨"com/example/spurion/spurion/semantics/Joins", "union", "(II)V"⟩ : MethodName) prog_256_method_2_code 5 none :: ws) ({ frames := 1, cells := 0, slots := 0, locals := 15 } : Room)) (fun a U => a = #[(.ref o), (.int (Int32.ofNat i)), (.int (Int32.ofNat j))] ∧ Z.Warmed39 U.vm ∧ U.heap = h0) (fun _ _ _ _ _ => True) (fun _ U oc U' => ∃ v L, oc = .returned v ∧ Q3 Z w t i j h0 n0 v U'.heap L ∧ FrameEnd U oc U' L ({ frames := 1, cells := 0, slots := 0, locals := 15 } : Room).cells ({ frames := 1, cells := 0, slots := 0, locals := 15 } : Room).slots) := by
  refine MetFree.of_bodySF (plainFor_of_name pn_J) hisR ?_
  intro p e s m args below meth c s₁ Bd hml0 hP hK
  obtain ⟨rfl, hZ, hh⟩ := hP
  have hx := Bd.exec
  have hby := Bd.bytes
  have hml : c.maxLocals = 5 := hml0
  have hown : s.vm.findClass "com/example/spurion/spurion/semantics/Joins" = some m.cls := findClass_of_methodNamed Bd.named
  have hnm := (name_of_methodNamed Bd.named Bd.method).1
  have X0 : Stand p l e ({ frames := 1, cells := 0, slots := 0, locals := 15 } : Room) s m #[(.ref o), (.int (Int32.ofNat i)), (.int (Int32.ofNat j))] below meth c s₁ [] 0 0 := Stand.of_body Bd
  have e0 : s₁.heap = h0 := by rw [← hh, Bd.state]; rfl
  have N0 := Fr.nil n0
  have pre0 : ∀ t, Steps p.tables e below (s₁.setTop (mkF m 0 #[.val (.ref o), .val (.int (Int32.ofNat i)), .val (.int (Int32.ofNat j)), .unset, .unset] [])) t → Steps p.tables e below (s₁.setTop (entryFrame m #[(.ref o), (.int (Int32.ofNat i)), (.int (Int32.ofNat j))] 5)) t := fun t k => castTop (ef_3 m o ((Int32.ofNat i)) ((Int32.ofNat j))) k
  obtain ⟨cq11, kq11, q11a, q11b, q11c⟩ := isOf hZ e0 E
  obtain ⟨_, _, ⟨T11, L11, k11, n11⟩, -, X11, ⟨Lc11, hQ11, l11, y11, z11⟩, st11⟩ := X0.virtualBack hx (y := (⟨"com/example/spurion/spurion/semantics/Joins", "named", "(I)I"⟩ : MethodName)) (z := (⟨"com/example/spurion/spurion/semantics/Joins", "named", "(I)I"⟩ : MethodName)) hown (mvT hZ (hw _ (List.mem_of_getElem? (i := 17) rfl))) (mvT hZ (hw _ (List.mem_of_getElem? (i := 18) rfl))) (notFace_of_selects (args := #[]) (mvT hZ (hw _ (List.mem_of_getElem? (i := 20) rfl)))) (mvT hZ (hw _ (List.mem_of_getElem? (i := 20) rfl))) (mvT hZ (hw _ (List.mem_of_getElem? (i := 19) rfl))) (by decide) (backOf (W := 0) (rm4 l Z a0 hw [] o w t i h0 n0 Ok hi F A gw ne) hZ (hw _ (List.mem_of_getElem? (i := 21) rfl)) (hw _ (List.mem_of_getElem? (i := 2) rfl)) (by decide) (by decide)) q11a q11c (g := (mkF m 2 #[.val (.ref o), .val (.int (Int32.ofNat i)), .val (.int (Int32.ofNat j)), .unset, .unset] [(.int (Int32.ofNat i)), (.ref o)])) rfl (by rw [hml]; rfl) (Steps.refl _) (argsL := [(.int (Int32.ofNat i))]) (rest := []) (lenOf pd_I_I rfl) rfl (by show 2 * 0 + _ ≤ _; exact Nat.le_of_eq rfl) (hb hby d3_2) (fun _ _ => ⟨rfl, e0, Nat.le_of_ble_eq_true rfl, Nat.le_of_ble_eq_true rfl⟩)
  dsimp only [Pt.U, Pt.locs, Pt.cells, Pt.slots] at X11 l11 y11 z11 st11 hQ11
  subst l11 y11 z11
  obtain ⟨rfl, N11q, K11, A11⟩ := hQ11
  have N11 := Fr.app N0 N11q
  have S1 := own_named_says Ok hi
  have F11 := F.keep K11 (own_nin ne)
  obtain ⟨cq12, kq12, q12a, q12b, q12c⟩ := isOf hZ rfl (E.keep K11)
  obtain ⟨_, _, ⟨T12, L12, k12, n12⟩, -, X12, ⟨Lc12, hQ12, l12, y12, z12⟩, st12⟩ := X11.virtualBack hx (y := (⟨"com/example/spurion/spurion/semantics/Joins", "named", "(I)I"⟩ : MethodName)) (z := (⟨"com/example/spurion/spurion/semantics/Joins", "named", "(I)I"⟩ : MethodName)) hown (mvT hZ (hw _ (List.mem_of_getElem? (i := 17) rfl))) (mvT hZ (hw _ (List.mem_of_getElem? (i := 18) rfl))) (notFace_of_selects (args := #[]) (mvT hZ (hw _ (List.mem_of_getElem? (i := 20) rfl)))) (mvT hZ (hw _ (List.mem_of_getElem? (i := 20) rfl))) (mvT hZ (hw _ (List.mem_of_getElem? (i := 19) rfl))) (by decide) (backOf (W := 0) (rm4 l Z a0 hw [] o w (own_loop 3 t i).1 j T11.heap n0 S1.1 hj F11 A11 gw ne) hZ (hw _ (List.mem_of_getElem? (i := 21) rfl)) (hw _ (List.mem_of_getElem? (i := 2) rfl)) (by decide) (by decide)) q12a q12c (g := (mkF m 8 #[.val (.ref o), .val (.int (Int32.ofNat i)), .val (.int (Int32.ofNat j)), .val (.int (Int32.ofNat (own_loop 3 t i).2)), .unset] [(.int (Int32.ofNat j)), (.ref o)])) rfl (by rw [hml]; rfl) (Steps.refl _) (argsL := [(.int (Int32.ofNat j))]) (rest := []) (lenOf pd_I_I rfl) rfl (by show 2 * 0 + _ ≤ _; exact Nat.le_of_eq rfl) (hb hby d3_8) (fun _ _ => ⟨rfl, rfl, Nat.le_of_ble_eq_true rfl, Nat.le_of_ble_eq_true rfl⟩)
  dsimp only [Pt.U, Pt.locs, Pt.cells, Pt.slots] at X12 l12 y12 z12 st12 hQ12
  subst l12 y12 z12
  obtain ⟨rfl, N12q, K12, A12⟩ := hQ12
  have N12 := Fr.app N11 N12q
  have S2 := own_named_says S1.1 hj
  have F12 := F11.keep K12 (own_nin ne)
  have KK := own_k1 K11 K12
  by_cases hc : (own_loop 3 t i).2 = (own_loop 3 (own_loop 3 t i).1 j).2
  · obtain ⟨fs, hr, hrun, hended, hW, hsame⟩ := X12.leave (v := none) (fun _ => rfl)
    refine ⟨_, _, pre0 _ ?_, hrun, hended, _, _, rfl, ?_, ⟨_, rfl⟩, hW, hsame.mono (by decide) (by decide)⟩
    · show Steps p.tables e below (s₁.setTop (mkF m 0 #[.val (.ref o), .val (.int (Int32.ofNat i)), .val (.int (Int32.ofNat j)), .unset, .unset] [])) _
      refine XS.aloadN X0.here hx rfl (hb hby d3_0) rfl rfl ?_
      show Steps p.tables e below (s₁.setTop (mkF m 1 #[.val (.ref o), .val (.int (Int32.ofNat i)), .val (.int (Int32.ofNat j)), .unset, .unset] [(.ref o)])) _
      refine XS.iloadN X0.here hx rfl (hb hby d3_1) rfl ?_
      show Steps p.tables e below (s₁.setTop (mkF m 2 #[.val (.ref o), .val (.int (Int32.ofNat i)), .val (.int (Int32.ofNat j)), .unset, .unset] [(.int (Int32.ofNat i)), (.ref o)])) _
      refine st11.trans ?_
      show Steps p.tables e below (T11.setTop (mkF m 5 #[.val (.ref o), .val (.int (Int32.ofNat i)), .val (.int (Int32.ofNat j)), .unset, .unset] [(.int (Int32.ofNat (own_loop 3 t i).2))])) _
      refine XS.istoreN X11.here hx rfl (hb hby d3_5) rfl (l' := #[.val (.ref o), .val (.int (Int32.ofNat i)), .val (.int (Int32.ofNat j)), .val (.int (Int32.ofNat (own_loop 3 t i).2)), .unset]) rfl ?_
      show Steps p.tables e below (T11.setTop (mkF m 6 #[.val (.ref o), .val (.int (Int32.ofNat i)), .val (.int (Int32.ofNat j)), .val (.int (Int32.ofNat (own_loop 3 t i).2)), .unset] [])) _
      refine XS.aloadN X11.here hx rfl (hb hby d3_6) rfl rfl ?_
      show Steps p.tables e below (T11.setTop (mkF m 7 #[.val (.ref o), .val (.int (Int32.ofNat i)), .val (.int (Int32.ofNat j)), .val (.int (Int32.ofNat (own_loop 3 t i).2)), .unset] [(.ref o)])) _
      refine XS.iloadN X11.here hx rfl (hb hby d3_7) rfl ?_
      show Steps p.tables e below (T11.setTop (mkF m 8 #[.val (.ref o), .val (.int (Int32.ofNat i)), .val (.int (Int32.ofNat j)), .val (.int (Int32.ofNat (own_loop 3 t i).2)), .unset] [(.int (Int32.ofNat j)), (.ref o)])) _
      refine st12.trans ?_
      show Steps p.tables e below (T12.setTop (mkF m 11 #[.val (.ref o), .val (.int (Int32.ofNat i)), .val (.int (Int32.ofNat j)), .val (.int (Int32.ofNat (own_loop 3 t i).2)), .unset] [(.int (Int32.ofNat (own_loop 3 (own_loop 3 t i).1 j).2))])) _
      refine XS.istore X12.here hx rfl (hb hby d3_11) rfl (l' := #[.val (.ref o), .val (.int (Int32.ofNat i)), .val (.int (Int32.ofNat j)), .val (.int (Int32.ofNat (own_loop 3 t i).2)), .val (.int (Int32.ofNat (own_loop 3 (own_loop 3 t i).1 j).2))]) rfl ?_
      show Steps p.tables e below (T12.setTop (mkF m 13 #[.val (.ref o), .val (.int (Int32.ofNat i)), .val (.int (Int32.ofNat j)), .val (.int (Int32.ofNat (own_loop 3 t i).2)), .val (.int (Int32.ofNat (own_loop 3 (own_loop 3 t i).1 j).2))] [])) _
      refine XS.iloadN X12.here hx rfl (hb hby d3_13) rfl ?_
      show Steps p.tables e below (T12.setTop (mkF m 14 #[.val (.ref o), .val (.int (Int32.ofNat i)), .val (.int (Int32.ofNat j)), .val (.int (Int32.ofNat (own_loop 3 t i).2)), .val (.int (Int32.ofNat (own_loop 3 (own_loop 3 t i).1 j).2))] [(.int (Int32.ofNat (own_loop 3 t i).2))])) _
      refine XS.iload X12.here hx rfl (hb hby d3_14) rfl ?_
      show Steps p.tables e below (T12.setTop (mkF m 16 #[.val (.ref o), .val (.int (Int32.ofNat i)), .val (.int (Int32.ofNat j)), .val (.int (Int32.ofNat (own_loop 3 t i).2)), .val (.int (Int32.ofNat (own_loop 3 (own_loop 3 t i).1 j).2))] [(.int (Int32.ofNat (own_loop 3 (own_loop 3 t i).1 j).2)), (.int (Int32.ofNat (own_loop 3 t i).2))])) _
      refine XS.icmpYes X12.here hx rfl (pc0 := 16) (pc' := 36) rfl (hb hby d3_16) rfl (teq ((own_inj S1.2.2.2 S2.2.2.2).mpr hc)).1 (by decide) (by decide) ?_
      show Steps p.tables e below (T12.setTop (mkF m 36 #[.val (.ref o), .val (.int (Int32.ofNat i)), .val (.int (Int32.ofNat j)), .val (.int (Int32.ofNat (own_loop 3 t i).2)), .val (.int (Int32.ofNat (own_loop 3 (own_loop 3 t i).1 j).2))] [])) _
      exact X12.returnOut hx Bd.returns (hb hby d3_36) hr
    · show Q3 Z w t i j h0 n0 _ T12.heap _
      refine ⟨rfl, N12, KK, ?_⟩
      rw [own_union, if_pos hc]
      exact A12
  · obtain ⟨T13, X13, e13, st13⟩ := getF X12 hx hZ hown (host := "") (Or.inl (hw _ (List.mem_of_getElem? (i := 10) rfl))) Via.refl rfl F12 (g := (mkF m 20 #[.val (.ref o), .val (.int (Int32.ofNat i)), .val (.int (Int32.ofNat j)), .val (.int (Int32.ofNat (own_loop 3 t i).2)), .val (.int (Int32.ofNat (own_loop 3 (own_loop 3 t i).1 j).2))] [(.ref o)])) rfl rfl (hb hby d3_20)
    obtain ⟨_, _, ⟨T14, L14, k14, n14⟩, -, X14, ⟨Lc14, hQ14, l14, y14, z14⟩, st14⟩ := Jvm.LawKit.callS X13 hx (y := (⟨"java/lang/Math", "max", "(II)I"⟩ : MethodName)) hown (mvT hZ (hw _ (List.mem_of_getElem? (i := 30) rfl))) (mvT hZ (hw _ (List.mem_of_getElem? (i := 31) rfl))) (mvT hZ (hw _ (List.mem_of_getElem? (i := 28) rfl))) (mvT hZ (hw _ (List.mem_of_getElem? (i := 32) rfl))) (by decide) (backOf (W := 1) (rm7 l Z a0 hw [] (Int32.ofNat (own_loop 3 t i).2) (Int32.ofNat (own_loop 3 (own_loop 3 t i).1 j).2) T12.heap n0) hZ (hw _ (List.mem_of_getElem? (i := 32) rfl)) (hw _ (List.mem_of_getElem? (i := 28) rfl)) (by decide) (by decide)) (g := (mkF m 26 #[.val (.ref o), .val (.int (Int32.ofNat i)), .val (.int (Int32.ofNat j)), .val (.int (Int32.ofNat (own_loop 3 t i).2)), .val (.int (Int32.ofNat (own_loop 3 (own_loop 3 t i).1 j).2))] [(.int (Int32.ofNat (own_loop 3 (own_loop 3 t i).1 j).2)), (.int (Int32.ofNat (own_loop 3 t i).2)), (.ref w)])) rfl (by rw [hml]; rfl) (argsL := [(.int (Int32.ofNat (own_loop 3 t i).2)), (.int (Int32.ofNat (own_loop 3 (own_loop 3 t i).1 j).2))]) (rest := [(.ref w)]) (lenOf pd_II_I rfl) rfl (by show 2 * 0 + _ ≤ _; exact Nat.le_of_eq rfl) (hb hby d3_26) (fun _ _ => ⟨rfl, e13, Nat.le_of_ble_eq_true rfl, Nat.le_of_ble_eq_true rfl⟩)
    dsimp only [Pt.U, Pt.locs, Pt.cells, Pt.slots] at X14 l14 y14 z14 st14 hQ14
    subst l14 y14 z14
    obtain ⟨rfl, N14q, e14⟩ := hQ14
    have N14 := Fr.app N12 N14q
    obtain ⟨_, _, ⟨T15, L15, k15, n15⟩, -, X15, ⟨Lc15, hQ15, l15, y15, z15⟩, st15⟩ := Jvm.LawKit.callS X14 hx (y := (⟨"java/lang/Math", "min", "(II)I"⟩ : MethodName)) hown (mvT hZ (hw _ (List.mem_of_getElem? (i := 33) rfl))) (mvT hZ (hw _ (List.mem_of_getElem? (i := 27) rfl))) (mvT hZ (hw _ (List.mem_of_getElem? (i := 28) rfl))) (mvT hZ (hw _ (List.mem_of_getElem? (i := 29) rfl))) (by decide) (backOf (W := 2) (rm6 l Z a0 hw [] (Int32.ofNat (own_loop 3 t i).2) (Int32.ofNat (own_loop 3 (own_loop 3 t i).1 j).2) T12.heap n0) hZ (hw _ (List.mem_of_getElem? (i := 29) rfl)) (hw _ (List.mem_of_getElem? (i := 28) rfl)) (by decide) (by decide)) (g := (mkF m 32 #[.val (.ref o), .val (.int (Int32.ofNat i)), .val (.int (Int32.ofNat j)), .val (.int (Int32.ofNat (own_loop 3 t i).2)), .val (.int (Int32.ofNat (own_loop 3 (own_loop 3 t i).1 j).2))] [(.int (Int32.ofNat (own_loop 3 (own_loop 3 t i).1 j).2)), (.int (Int32.ofNat (own_loop 3 t i).2)), (.int (v7 (Int32.ofNat (own_loop 3 t i).2) (Int32.ofNat (own_loop 3 (own_loop 3 t i).1 j).2))), (.ref w)])) rfl (by rw [hml]; rfl) (argsL := [(.int (Int32.ofNat (own_loop 3 t i).2)), (.int (Int32.ofNat (own_loop 3 (own_loop 3 t i).1 j).2))]) (rest := [(.int (v7 (Int32.ofNat (own_loop 3 t i).2) (Int32.ofNat (own_loop 3 (own_loop 3 t i).1 j).2))), (.ref w)]) (lenOf pd_II_I rfl) rfl (by show 2 * 0 + _ ≤ _; exact Nat.le_of_eq rfl) (hb hby d3_32) (fun _ _ => ⟨rfl, e14, Nat.le_of_ble_eq_true rfl, Nat.le_of_ble_eq_true rfl⟩)
    dsimp only [Pt.U, Pt.locs, Pt.cells, Pt.slots] at X15 l15 y15 z15 st15 hQ15
    subst l15 y15 z15
    obtain ⟨rfl, N15q, e15⟩ := hQ15
    have N15 := Fr.app N14 N15q
    obtain ⟨T16, h16, L16, X16, e16, N16, A16, K16, st16⟩ := own_putT X15 hx hZ e15 A12 S2.1.1 N15 gw (i := max (own_loop 3 t i).2 (own_loop 3 (own_loop 3 t i).1 j).2) (by have := S1.2.2.2; have := S2.2.2.2; omega) (y := (min (own_loop 3 t i).2 (own_loop 3 (own_loop 3 t i).1 j).2)) (v7_nat S1.2.2.2 S2.2.2.2) (v6_nat S1.2.2.2 S2.2.2.2) (g := (mkF m 35 #[.val (.ref o), .val (.int (Int32.ofNat i)), .val (.int (Int32.ofNat j)), .val (.int (Int32.ofNat (own_loop 3 t i).2)), .val (.int (Int32.ofNat (own_loop 3 (own_loop 3 t i).1 j).2))] [(.int (v6 (Int32.ofNat (own_loop 3 t i).2) (Int32.ofNat (own_loop 3 (own_loop 3 t i).1 j).2))), (.int (v7 (Int32.ofNat (own_loop 3 t i).2) (Int32.ofNat (own_loop 3 (own_loop 3 t i).1 j).2))), (.ref w)])) rfl rfl (hb hby d3_35)
    obtain ⟨fs, hr, hrun, hended, hW, hsame⟩ := X16.leave (v := none) (fun _ => rfl)
    refine ⟨_, _, pre0 _ ?_, hrun, hended, _, _, rfl, ?_, ⟨_, rfl⟩, hW, hsame.mono (by decide) (by decide)⟩
    · show Steps p.tables e below (s₁.setTop (mkF m 0 #[.val (.ref o), .val (.int (Int32.ofNat i)), .val (.int (Int32.ofNat j)), .unset, .unset] [])) _
      refine XS.aloadN X0.here hx rfl (hb hby d3_0) rfl rfl ?_
      show Steps p.tables e below (s₁.setTop (mkF m 1 #[.val (.ref o), .val (.int (Int32.ofNat i)), .val (.int (Int32.ofNat j)), .unset, .unset] [(.ref o)])) _
      refine XS.iloadN X0.here hx rfl (hb hby d3_1) rfl ?_
      show Steps p.tables e below (s₁.setTop (mkF m 2 #[.val (.ref o), .val (.int (Int32.ofNat i)), .val (.int (Int32.ofNat j)), .unset, .unset] [(.int (Int32.ofNat i)), (.ref o)])) _
      refine st11.trans ?_
      show Steps p.tables e below (T11.setTop (mkF m 5 #[.val (.ref o), .val (.int (Int32.ofNat i)), .val (.int (Int32.ofNat j)), .unset, .unset] [(.int (Int32.ofNat (own_loop 3 t i).2))])) _
      refine XS.istoreN X11.here hx rfl (hb hby d3_5) rfl (l' := #[.val (.ref o), .val (.int (Int32.ofNat i)), .val (.int (Int32.ofNat j)), .val (.int (Int32.ofNat (own_loop 3 t i).2)), .unset]) rfl ?_
      show Steps p.tables e below (T11.setTop (mkF m 6 #[.val (.ref o), .val (.int (Int32.ofNat i)), .val (.int (Int32.ofNat j)), .val (.int (Int32.ofNat (own_loop 3 t i).2)), .unset] [])) _
      refine XS.aloadN X11.here hx rfl (hb hby d3_6) rfl rfl ?_
      show Steps p.tables e below (T11.setTop (mkF m 7 #[.val (.ref o), .val (.int (Int32.ofNat i)), .val (.int (Int32.ofNat j)), .val (.int (Int32.ofNat (own_loop 3 t i).2)), .unset] [(.ref o)])) _
      refine XS.iloadN X11.here hx rfl (hb hby d3_7) rfl ?_
      show Steps p.tables e below (T11.setTop (mkF m 8 #[.val (.ref o), .val (.int (Int32.ofNat i)), .val (.int (Int32.ofNat j)), .val (.int (Int32.ofNat (own_loop 3 t i).2)), .unset] [(.int (Int32.ofNat j)), (.ref o)])) _
      refine st12.trans ?_
      show Steps p.tables e below (T12.setTop (mkF m 11 #[.val (.ref o), .val (.int (Int32.ofNat i)), .val (.int (Int32.ofNat j)), .val (.int (Int32.ofNat (own_loop 3 t i).2)), .unset] [(.int (Int32.ofNat (own_loop 3 (own_loop 3 t i).1 j).2))])) _
      refine XS.istore X12.here hx rfl (hb hby d3_11) rfl (l' := #[.val (.ref o), .val (.int (Int32.ofNat i)), .val (.int (Int32.ofNat j)), .val (.int (Int32.ofNat (own_loop 3 t i).2)), .val (.int (Int32.ofNat (own_loop 3 (own_loop 3 t i).1 j).2))]) rfl ?_
      show Steps p.tables e below (T12.setTop (mkF m 13 #[.val (.ref o), .val (.int (Int32.ofNat i)), .val (.int (Int32.ofNat j)), .val (.int (Int32.ofNat (own_loop 3 t i).2)), .val (.int (Int32.ofNat (own_loop 3 (own_loop 3 t i).1 j).2))] [])) _
      refine XS.iloadN X12.here hx rfl (hb hby d3_13) rfl ?_
      show Steps p.tables e below (T12.setTop (mkF m 14 #[.val (.ref o), .val (.int (Int32.ofNat i)), .val (.int (Int32.ofNat j)), .val (.int (Int32.ofNat (own_loop 3 t i).2)), .val (.int (Int32.ofNat (own_loop 3 (own_loop 3 t i).1 j).2))] [(.int (Int32.ofNat (own_loop 3 t i).2))])) _
      refine XS.iload X12.here hx rfl (hb hby d3_14) rfl ?_
      show Steps p.tables e below (T12.setTop (mkF m 16 #[.val (.ref o), .val (.int (Int32.ofNat i)), .val (.int (Int32.ofNat j)), .val (.int (Int32.ofNat (own_loop 3 t i).2)), .val (.int (Int32.ofNat (own_loop 3 (own_loop 3 t i).1 j).2))] [(.int (Int32.ofNat (own_loop 3 (own_loop 3 t i).1 j).2)), (.int (Int32.ofNat (own_loop 3 t i).2))])) _
      refine XS.icmpNo X12.here hx rfl (hb hby d3_16) rfl (feq (fun z => hc ((own_inj S1.2.2.2 S2.2.2.2).mp z))).1 ?_
      show Steps p.tables e below (T12.setTop (mkF m 19 #[.val (.ref o), .val (.int (Int32.ofNat i)), .val (.int (Int32.ofNat j)), .val (.int (Int32.ofNat (own_loop 3 t i).2)), .val (.int (Int32.ofNat (own_loop 3 (own_loop 3 t i).1 j).2))] [])) _
      refine XS.aloadN X12.here hx rfl (hb hby d3_19) rfl rfl ?_
      show Steps p.tables e below (T12.setTop (mkF m 20 #[.val (.ref o), .val (.int (Int32.ofNat i)), .val (.int (Int32.ofNat j)), .val (.int (Int32.ofNat (own_loop 3 t i).2)), .val (.int (Int32.ofNat (own_loop 3 (own_loop 3 t i).1 j).2))] [(.ref o)])) _
      refine st13 _ ?_
      show Steps p.tables e below (T13.setTop (mkF m 23 #[.val (.ref o), .val (.int (Int32.ofNat i)), .val (.int (Int32.ofNat j)), .val (.int (Int32.ofNat (own_loop 3 t i).2)), .val (.int (Int32.ofNat (own_loop 3 (own_loop 3 t i).1 j).2))] [(.ref w)])) _
      refine XS.iloadN X13.here hx rfl (hb hby d3_23) rfl ?_
      show Steps p.tables e below (T13.setTop (mkF m 24 #[.val (.ref o), .val (.int (Int32.ofNat i)), .val (.int (Int32.ofNat j)), .val (.int (Int32.ofNat (own_loop 3 t i).2)), .val (.int (Int32.ofNat (own_loop 3 (own_loop 3 t i).1 j).2))] [(.int (Int32.ofNat (own_loop 3 t i).2)), (.ref w)])) _
      refine XS.iload X13.here hx rfl (hb hby d3_24) rfl ?_
      show Steps p.tables e below (T13.setTop (mkF m 26 #[.val (.ref o), .val (.int (Int32.ofNat i)), .val (.int (Int32.ofNat j)), .val (.int (Int32.ofNat (own_loop 3 t i).2)), .val (.int (Int32.ofNat (own_loop 3 (own_loop 3 t i).1 j).2))] [(.int (Int32.ofNat (own_loop 3 (own_loop 3 t i).1 j).2)), (.int (Int32.ofNat (own_loop 3 t i).2)), (.ref w)])) _
      refine st14 _ ?_
      show Steps p.tables e below (T14.setTop (mkF m 29 #[.val (.ref o), .val (.int (Int32.ofNat i)), .val (.int (Int32.ofNat j)), .val (.int (Int32.ofNat (own_loop 3 t i).2)), .val (.int (Int32.ofNat (own_loop 3 (own_loop 3 t i).1 j).2))] [(.int (v7 (Int32.ofNat (own_loop 3 t i).2) (Int32.ofNat (own_loop 3 (own_loop 3 t i).1 j).2))), (.ref w)])) _
      refine XS.iloadN X14.here hx rfl (hb hby d3_29) rfl ?_
      show Steps p.tables e below (T14.setTop (mkF m 30 #[.val (.ref o), .val (.int (Int32.ofNat i)), .val (.int (Int32.ofNat j)), .val (.int (Int32.ofNat (own_loop 3 t i).2)), .val (.int (Int32.ofNat (own_loop 3 (own_loop 3 t i).1 j).2))] [(.int (Int32.ofNat (own_loop 3 t i).2)), (.int (v7 (Int32.ofNat (own_loop 3 t i).2) (Int32.ofNat (own_loop 3 (own_loop 3 t i).1 j).2))), (.ref w)])) _
      refine XS.iload X14.here hx rfl (hb hby d3_30) rfl ?_
      show Steps p.tables e below (T14.setTop (mkF m 32 #[.val (.ref o), .val (.int (Int32.ofNat i)), .val (.int (Int32.ofNat j)), .val (.int (Int32.ofNat (own_loop 3 t i).2)), .val (.int (Int32.ofNat (own_loop 3 (own_loop 3 t i).1 j).2))] [(.int (Int32.ofNat (own_loop 3 (own_loop 3 t i).1 j).2)), (.int (Int32.ofNat (own_loop 3 t i).2)), (.int (v7 (Int32.ofNat (own_loop 3 t i).2) (Int32.ofNat (own_loop 3 (own_loop 3 t i).1 j).2))), (.ref w)])) _
      refine st15 _ ?_
      show Steps p.tables e below (T15.setTop (mkF m 35 #[.val (.ref o), .val (.int (Int32.ofNat i)), .val (.int (Int32.ofNat j)), .val (.int (Int32.ofNat (own_loop 3 t i).2)), .val (.int (Int32.ofNat (own_loop 3 (own_loop 3 t i).1 j).2))] [(.int (v6 (Int32.ofNat (own_loop 3 t i).2) (Int32.ofNat (own_loop 3 (own_loop 3 t i).1 j).2))), (.int (v7 (Int32.ofNat (own_loop 3 t i).2) (Int32.ofNat (own_loop 3 (own_loop 3 t i).1 j).2))), (.ref w)])) _
      refine st16 _ ?_
      show Steps p.tables e below (T16.setTop (mkF m 36 #[.val (.ref o), .val (.int (Int32.ofNat i)), .val (.int (Int32.ofNat j)), .val (.int (Int32.ofNat (own_loop 3 t i).2)), .val (.int (Int32.ofNat (own_loop 3 (own_loop 3 t i).1 j).2))] [])) _
      exact X16.returnOut hx Bd.returns (hb hby d3_36) hr
    · show Q3 Z w t i j h0 n0 _ T16.heap _
      rw [e16]
      refine ⟨rfl, N16, own_k1 KK K16, ?_⟩
      rw [own_union, if_neg hc]
      exact A16
theorem d5_0 : decode method_2_code 0 = .ok (.aload_n 0, 1) := by decide +kernel
theorem d5_1 : decode method_2_code 1 = .ok (.iload_n 1, 1) := by decide +kernel
theorem d5_2 : decode method_2_code 2 = .ok (.iaload, 1) := by decide +kernel
theorem d5_3 : decode method_2_code 3 = .ok (.istore_n 3, 1) := by decide +kernel
theorem d5_4 : decode method_2_code 4 = .ok (.aload_n 0, 1) := by decide +kernel
theorem d5_5 : decode method_2_code 5 = .ok (.iload_n 2, 1) := by decide +kernel
theorem d5_6 : decode method_2_code 6 = .ok (.iaload, 1) := by decide +kernel
theorem d5_7 : decode method_2_code 7 = .ok (.istore 4, 2) := by decide +kernel
theorem d5_9 : decode method_2_code 9 = .ok (.iload_n 3, 1) := by decide +kernel
theorem d5_10 : decode method_2_code 10 = .ok (.iload 4, 2) := by decide +kernel
theorem d5_12 : decode method_2_code 12 = .ok (.invokestatic 7, 3) := by decide +kernel
theorem d5_15 : decode method_2_code 15 = .ok (.istore 5, 2) := by decide +kernel
theorem d5_17 : decode method_2_code 17 = .ok (.aload_n 0, 1) := by decide +kernel
theorem d5_18 : decode method_2_code 18 = .ok (.iconst 0, 1) := by decide +kernel
theorem d5_19 : decode method_2_code 19 = .ok (.iaload, 1) := by decide +kernel
theorem d5_20 : decode method_2_code 20 = .ok (.iload_n 3, 1) := by decide +kernel
theorem d5_21 : decode method_2_code 21 = .ok (.if_icmp .eq 11, 3) := by decide +kernel
theorem d5_24 : decode method_2_code 24 = .ok (.aload_n 0, 1) := by decide +kernel
theorem d5_25 : decode method_2_code 25 = .ok (.iconst 0, 1) := by decide +kernel
theorem d5_26 : decode method_2_code 26 = .ok (.iaload, 1) := by decide +kernel
theorem d5_27 : decode method_2_code 27 = .ok (.iload 4, 2) := by decide +kernel
theorem d5_29 : decode method_2_code 29 = .ok (.if_icmp .ne 8, 3) := by decide +kernel
theorem d5_32 : decode method_2_code 32 = .ok (.aload_n 0, 1) := by decide +kernel
theorem d5_33 : decode method_2_code 33 = .ok (.iconst 0, 1) := by decide +kernel
theorem d5_34 : decode method_2_code 34 = .ok (.iload 5, 2) := by decide +kernel
theorem d5_36 : decode method_2_code 36 = .ok (.iastore, 1) := by decide +kernel
theorem d5_37 : decode method_2_code 37 = .ok (.aload_n 0, 1) := by decide +kernel
theorem d5_38 : decode method_2_code 38 = .ok (.iconst 1, 1) := by decide +kernel
theorem d5_39 : decode method_2_code 39 = .ok (.iaload, 1) := by decide +kernel
theorem d5_40 : decode method_2_code 40 = .ok (.iload_n 3, 1) := by decide +kernel
theorem d5_41 : decode method_2_code 41 = .ok (.if_icmp .eq 11, 3) := by decide +kernel
theorem d5_44 : decode method_2_code 44 = .ok (.aload_n 0, 1) := by decide +kernel
theorem d5_45 : decode method_2_code 45 = .ok (.iconst 1, 1) := by decide +kernel
theorem d5_46 : decode method_2_code 46 = .ok (.iaload, 1) := by decide +kernel
theorem d5_47 : decode method_2_code 47 = .ok (.iload 4, 2) := by decide +kernel
theorem d5_49 : decode method_2_code 49 = .ok (.if_icmp .ne 8, 3) := by decide +kernel
theorem d5_52 : decode method_2_code 52 = .ok (.aload_n 0, 1) := by decide +kernel
theorem d5_53 : decode method_2_code 53 = .ok (.iconst 1, 1) := by decide +kernel
theorem d5_54 : decode method_2_code 54 = .ok (.iload 5, 2) := by decide +kernel
theorem d5_56 : decode method_2_code 56 = .ok (.iastore, 1) := by decide +kernel
theorem d5_57 : decode method_2_code 57 = .ok (.aload_n 0, 1) := by decide +kernel
theorem d5_58 : decode method_2_code 58 = .ok (.iconst 2, 1) := by decide +kernel
theorem d5_59 : decode method_2_code 59 = .ok (.iaload, 1) := by decide +kernel
theorem d5_60 : decode method_2_code 60 = .ok (.iload_n 3, 1) := by decide +kernel
theorem d5_61 : decode method_2_code 61 = .ok (.if_icmp .eq 11, 3) := by decide +kernel
theorem d5_64 : decode method_2_code 64 = .ok (.aload_n 0, 1) := by decide +kernel
theorem d5_65 : decode method_2_code 65 = .ok (.iconst 2, 1) := by decide +kernel
theorem d5_66 : decode method_2_code 66 = .ok (.iaload, 1) := by decide +kernel
theorem d5_67 : decode method_2_code 67 = .ok (.iload 4, 2) := by decide +kernel
theorem d5_69 : decode method_2_code 69 = .ok (.if_icmp .ne 8, 3) := by decide +kernel
theorem d5_72 : decode method_2_code 72 = .ok (.aload_n 0, 1) := by decide +kernel
theorem d5_73 : decode method_2_code 73 = .ok (.iconst 2, 1) := by decide +kernel
theorem d5_74 : decode method_2_code 74 = .ok (.iload 5, 2) := by decide +kernel
theorem d5_76 : decode method_2_code 76 = .ok (.iastore, 1) := by decide +kernel
theorem d5_77 : decode method_2_code 77 = .ok (.aload_n 0, 1) := by decide +kernel
theorem d5_78 : decode method_2_code 78 = .ok (.iconst 3, 1) := by decide +kernel
theorem d5_79 : decode method_2_code 79 = .ok (.iaload, 1) := by decide +kernel
theorem d5_80 : decode method_2_code 80 = .ok (.iload_n 3, 1) := by decide +kernel
theorem d5_81 : decode method_2_code 81 = .ok (.if_icmp .eq 11, 3) := by decide +kernel
theorem d5_84 : decode method_2_code 84 = .ok (.aload_n 0, 1) := by decide +kernel
theorem d5_85 : decode method_2_code 85 = .ok (.iconst 3, 1) := by decide +kernel
theorem d5_86 : decode method_2_code 86 = .ok (.iaload, 1) := by decide +kernel
theorem d5_87 : decode method_2_code 87 = .ok (.iload 4, 2) := by decide +kernel
theorem d5_89 : decode method_2_code 89 = .ok (.if_icmp .ne 8, 3) := by decide +kernel
theorem d5_92 : decode method_2_code 92 = .ok (.aload_n 0, 1) := by decide +kernel
theorem d5_93 : decode method_2_code 93 = .ok (.iconst 3, 1) := by decide +kernel
theorem d5_94 : decode method_2_code 94 = .ok (.iload 5, 2) := by decide +kernel
theorem d5_96 : decode method_2_code 96 = .ok (.iastore, 1) := by decide +kernel
theorem d5_97 : decode method_2_code 97 = .ok (.return_, 1) := by decide +kernel
theorem ef_5 (m : MethodId) (x0 : Addr) (x1 : Int32) (x2 : Int32) : entryFrame m #[(.ref x0), (.int x1), (.int x2)] 6 = mkF m 0 #[.val (.ref x0), .val (.int x1), .val (.int x2), .unset, .unset, .unset] [] := by first | (simp [entryFrame, mkF, argsToLocals, Value.category]; done) | rfl
theorem own_same_set {t : List Nat} (hl : t.length = 4) (q : Nat) (hq : q < 4) : t.set q (t.getD q 0) = t := by
  match t, hl with
  | [x0, x1, x2, x3], _ =>
    match q, hq with
    | 0, _ => rfl
    | 1, _ => rfl
    | 2, _ => rfl
    | 3, _ => rfl
theorem own_join_eq {t : List Nat} (hl : t.length = 4) (la lb mn : Nat) : (((t.set 0 (own_f la lb mn (t.getD 0 0))).set 1 (own_f la lb mn (t.getD 1 0))).set 2 (own_f la lb mn (t.getD 2 0))).set 3 (own_f la lb mn (t.getD 3 0)) = t.map (own_f la lb mn) := by
  match t, hl with
  | [x0, x1, x2, x3], _ => rfl
theorem own_set_at {t : List Nat} (hl : t.length = 4) (q r y : Nat) (hq : q < 4) (h : r ≠ q) : (t.set q y).getD r 0 = t.getD r 0 := by
  rw [own_setD _ _ _ _ (by omega), if_neg h]
set_option maxRecDepth 65536 in
set_option maxHeartbeats 40000000 in
theorem jn0 {p : Program} {l : Launch} {e : Env} {R : Room} {s : State} {m : MethodId} {args : Array Value} {below : List Frame} {meth : Method} {c : Code} {T0 : State} {locs : List Loc} {cells slots : Nat} {Z : State} {a0 : Array Value} {h0 : Heap} (X0 : Stand p l e R s m args below meth c T0 locs cells slots) (hx : p.tables.exec = Jvm.exec) (hZ : Z.Warmed39 s.vm) (hw : ∀ d ∈ tables_1, d.before a0 Z = true) (hby : c.code = method_2_code) (hown : s.vm.findClass "com/example/spurion/spurion/semantics/JoinsNamedPinLaw" = some m.cls) (e0 : T0.heap = h0) (w : Addr) (s1 s2 : Slot) (la lb mn : Nat) (t : List Nat) (n0 : Nat) (hl : t.length = 4) (ht : t.getD 0 0 < 4) (ha : la < 4) (hb' : lb < 4) (A : own_T Z h0 w t) (gw : n0 ≤ w) (N0 : Fr n0 locs) :
    ∃ (T' : State) (h' : Heap) (locs' : List Loc), Stand p l e R s m args below meth c T' locs' cells slots ∧ T'.heap = h' ∧ Fr n0 locs' ∧ own_T Z h' w (t.set 0 (own_f la lb mn (t.getD 0 0))) ∧ Keep h0 h' [w] ∧ ∀ target, Steps p.tables e below (T'.setTop (mkF m 37 #[.val (.ref w), s1, s2, .val (.int (Int32.ofNat la)), .val (.int (Int32.ofNat lb)), .val (.int (Int32.ofNat mn))] [])) target → Steps p.tables e below (T0.setTop (mkF m 17 #[.val (.ref w), s1, s2, .val (.int (Int32.ofNat la)), .val (.int (Int32.ofNat lb)), .val (.int (Int32.ofNat mn))] [])) target := by
  by_cases h1 : (t.getD 0 0) = la
  · rw [own_f, if_pos (Or.inl h1)]
    have st11 := own_getT X0 hx hZ e0 A hl (i := 0) (by decide) rfl (g := (mkF m 19 #[.val (.ref w), s1, s2, .val (.int (Int32.ofNat la)), .val (.int (Int32.ofNat lb)), .val (.int (Int32.ofNat mn))] [(.int (0 : Int32)), (.ref w)])) rfl rfl (hb hby d5_19)
    obtain ⟨T12, h12, L12, X12, e12, N12, A12, K12, st12⟩ := own_putT X0 hx hZ e0 A hl N0 gw (i := 0) (by decide) (y := mn) rfl rfl (g := (mkF m 36 #[.val (.ref w), s1, s2, .val (.int (Int32.ofNat la)), .val (.int (Int32.ofNat lb)), .val (.int (Int32.ofNat mn))] [(.int (Int32.ofNat mn)), (.int (0 : Int32)), (.ref w)])) rfl rfl (hb hby d5_36)
    refine ⟨T12, _, _, X12, e12, N12, A12, K12, fun target kt => ?_⟩
    show Steps p.tables e below (T0.setTop (mkF m 17 #[.val (.ref w), s1, s2, .val (.int (Int32.ofNat la)), .val (.int (Int32.ofNat lb)), .val (.int (Int32.ofNat mn))] [])) _
    refine XS.aloadN X0.here hx rfl (hb hby d5_17) rfl rfl ?_
    show Steps p.tables e below (T0.setTop (mkF m 18 #[.val (.ref w), s1, s2, .val (.int (Int32.ofNat la)), .val (.int (Int32.ofNat lb)), .val (.int (Int32.ofNat mn))] [(.ref w)])) _
    refine XS.iconst X0.here hx rfl (hb hby d5_18) ?_
    show Steps p.tables e below (T0.setTop (mkF m 19 #[.val (.ref w), s1, s2, .val (.int (Int32.ofNat la)), .val (.int (Int32.ofNat lb)), .val (.int (Int32.ofNat mn))] [(.int (0 : Int32)), (.ref w)])) _
    refine st11 _ ?_
    show Steps p.tables e below (T0.setTop (mkF m 20 #[.val (.ref w), s1, s2, .val (.int (Int32.ofNat la)), .val (.int (Int32.ofNat lb)), .val (.int (Int32.ofNat mn))] [(.int (Int32.ofNat (t.getD 0 0)))])) _
    refine XS.iloadN X0.here hx rfl (hb hby d5_20) rfl ?_
    show Steps p.tables e below (T0.setTop (mkF m 21 #[.val (.ref w), s1, s2, .val (.int (Int32.ofNat la)), .val (.int (Int32.ofNat lb)), .val (.int (Int32.ofNat mn))] [(.int (Int32.ofNat la)), (.int (Int32.ofNat (t.getD 0 0)))])) _
    refine XS.icmpYes X0.here hx rfl (pc0 := 21) (pc' := 32) rfl (hb hby d5_21) rfl (teq ((own_inj ht ha).mpr h1)).1 (by decide) (by decide) ?_
    show Steps p.tables e below (T0.setTop (mkF m 32 #[.val (.ref w), s1, s2, .val (.int (Int32.ofNat la)), .val (.int (Int32.ofNat lb)), .val (.int (Int32.ofNat mn))] [])) _
    refine XS.aloadN X0.here hx rfl (hb hby d5_32) rfl rfl ?_
    show Steps p.tables e below (T0.setTop (mkF m 33 #[.val (.ref w), s1, s2, .val (.int (Int32.ofNat la)), .val (.int (Int32.ofNat lb)), .val (.int (Int32.ofNat mn))] [(.ref w)])) _
    refine XS.iconst X0.here hx rfl (hb hby d5_33) ?_
    show Steps p.tables e below (T0.setTop (mkF m 34 #[.val (.ref w), s1, s2, .val (.int (Int32.ofNat la)), .val (.int (Int32.ofNat lb)), .val (.int (Int32.ofNat mn))] [(.int (0 : Int32)), (.ref w)])) _
    refine XS.iload X0.here hx rfl (hb hby d5_34) rfl ?_
    show Steps p.tables e below (T0.setTop (mkF m 36 #[.val (.ref w), s1, s2, .val (.int (Int32.ofNat la)), .val (.int (Int32.ofNat lb)), .val (.int (Int32.ofNat mn))] [(.int (Int32.ofNat mn)), (.int (0 : Int32)), (.ref w)])) _
    refine st12 _ ?_
    show Steps p.tables e below (T12.setTop (mkF m 37 #[.val (.ref w), s1, s2, .val (.int (Int32.ofNat la)), .val (.int (Int32.ofNat lb)), .val (.int (Int32.ofNat mn))] [])) _
    exact kt
  · by_cases h2 : (t.getD 0 0) = lb
    · rw [own_f, if_pos (Or.inr h2)]
      have st11 := own_getT X0 hx hZ e0 A hl (i := 0) (by decide) rfl (g := (mkF m 19 #[.val (.ref w), s1, s2, .val (.int (Int32.ofNat la)), .val (.int (Int32.ofNat lb)), .val (.int (Int32.ofNat mn))] [(.int (0 : Int32)), (.ref w)])) rfl rfl (hb hby d5_19)
      have st12 := own_getT X0 hx hZ e0 A hl (i := 0) (by decide) rfl (g := (mkF m 26 #[.val (.ref w), s1, s2, .val (.int (Int32.ofNat la)), .val (.int (Int32.ofNat lb)), .val (.int (Int32.ofNat mn))] [(.int (0 : Int32)), (.ref w)])) rfl rfl (hb hby d5_26)
      obtain ⟨T13, h13, L13, X13, e13, N13, A13, K13, st13⟩ := own_putT X0 hx hZ e0 A hl N0 gw (i := 0) (by decide) (y := mn) rfl rfl (g := (mkF m 36 #[.val (.ref w), s1, s2, .val (.int (Int32.ofNat la)), .val (.int (Int32.ofNat lb)), .val (.int (Int32.ofNat mn))] [(.int (Int32.ofNat mn)), (.int (0 : Int32)), (.ref w)])) rfl rfl (hb hby d5_36)
      refine ⟨T13, _, _, X13, e13, N13, A13, K13, fun target kt => ?_⟩
      show Steps p.tables e below (T0.setTop (mkF m 17 #[.val (.ref w), s1, s2, .val (.int (Int32.ofNat la)), .val (.int (Int32.ofNat lb)), .val (.int (Int32.ofNat mn))] [])) _
      refine XS.aloadN X0.here hx rfl (hb hby d5_17) rfl rfl ?_
      show Steps p.tables e below (T0.setTop (mkF m 18 #[.val (.ref w), s1, s2, .val (.int (Int32.ofNat la)), .val (.int (Int32.ofNat lb)), .val (.int (Int32.ofNat mn))] [(.ref w)])) _
      refine XS.iconst X0.here hx rfl (hb hby d5_18) ?_
      show Steps p.tables e below (T0.setTop (mkF m 19 #[.val (.ref w), s1, s2, .val (.int (Int32.ofNat la)), .val (.int (Int32.ofNat lb)), .val (.int (Int32.ofNat mn))] [(.int (0 : Int32)), (.ref w)])) _
      refine st11 _ ?_
      show Steps p.tables e below (T0.setTop (mkF m 20 #[.val (.ref w), s1, s2, .val (.int (Int32.ofNat la)), .val (.int (Int32.ofNat lb)), .val (.int (Int32.ofNat mn))] [(.int (Int32.ofNat (t.getD 0 0)))])) _
      refine XS.iloadN X0.here hx rfl (hb hby d5_20) rfl ?_
      show Steps p.tables e below (T0.setTop (mkF m 21 #[.val (.ref w), s1, s2, .val (.int (Int32.ofNat la)), .val (.int (Int32.ofNat lb)), .val (.int (Int32.ofNat mn))] [(.int (Int32.ofNat la)), (.int (Int32.ofNat (t.getD 0 0)))])) _
      refine XS.icmpNo X0.here hx rfl (hb hby d5_21) rfl (feq (fun z => h1 ((own_inj ht ha).mp z))).1 ?_
      show Steps p.tables e below (T0.setTop (mkF m 24 #[.val (.ref w), s1, s2, .val (.int (Int32.ofNat la)), .val (.int (Int32.ofNat lb)), .val (.int (Int32.ofNat mn))] [])) _
      refine XS.aloadN X0.here hx rfl (hb hby d5_24) rfl rfl ?_
      show Steps p.tables e below (T0.setTop (mkF m 25 #[.val (.ref w), s1, s2, .val (.int (Int32.ofNat la)), .val (.int (Int32.ofNat lb)), .val (.int (Int32.ofNat mn))] [(.ref w)])) _
      refine XS.iconst X0.here hx rfl (hb hby d5_25) ?_
      show Steps p.tables e below (T0.setTop (mkF m 26 #[.val (.ref w), s1, s2, .val (.int (Int32.ofNat la)), .val (.int (Int32.ofNat lb)), .val (.int (Int32.ofNat mn))] [(.int (0 : Int32)), (.ref w)])) _
      refine st12 _ ?_
      show Steps p.tables e below (T0.setTop (mkF m 27 #[.val (.ref w), s1, s2, .val (.int (Int32.ofNat la)), .val (.int (Int32.ofNat lb)), .val (.int (Int32.ofNat mn))] [(.int (Int32.ofNat (t.getD 0 0)))])) _
      refine XS.iload X0.here hx rfl (hb hby d5_27) rfl ?_
      show Steps p.tables e below (T0.setTop (mkF m 29 #[.val (.ref w), s1, s2, .val (.int (Int32.ofNat la)), .val (.int (Int32.ofNat lb)), .val (.int (Int32.ofNat mn))] [(.int (Int32.ofNat lb)), (.int (Int32.ofNat (t.getD 0 0)))])) _
      refine XS.icmpNo X0.here hx rfl (hb hby d5_29) rfl (teq ((own_inj ht hb').mpr h2)).2 ?_
      show Steps p.tables e below (T0.setTop (mkF m 32 #[.val (.ref w), s1, s2, .val (.int (Int32.ofNat la)), .val (.int (Int32.ofNat lb)), .val (.int (Int32.ofNat mn))] [])) _
      refine XS.aloadN X0.here hx rfl (hb hby d5_32) rfl rfl ?_
      show Steps p.tables e below (T0.setTop (mkF m 33 #[.val (.ref w), s1, s2, .val (.int (Int32.ofNat la)), .val (.int (Int32.ofNat lb)), .val (.int (Int32.ofNat mn))] [(.ref w)])) _
      refine XS.iconst X0.here hx rfl (hb hby d5_33) ?_
      show Steps p.tables e below (T0.setTop (mkF m 34 #[.val (.ref w), s1, s2, .val (.int (Int32.ofNat la)), .val (.int (Int32.ofNat lb)), .val (.int (Int32.ofNat mn))] [(.int (0 : Int32)), (.ref w)])) _
      refine XS.iload X0.here hx rfl (hb hby d5_34) rfl ?_
      show Steps p.tables e below (T0.setTop (mkF m 36 #[.val (.ref w), s1, s2, .val (.int (Int32.ofNat la)), .val (.int (Int32.ofNat lb)), .val (.int (Int32.ofNat mn))] [(.int (Int32.ofNat mn)), (.int (0 : Int32)), (.ref w)])) _
      refine st13 _ ?_
      show Steps p.tables e below (T13.setTop (mkF m 37 #[.val (.ref w), s1, s2, .val (.int (Int32.ofNat la)), .val (.int (Int32.ofNat lb)), .val (.int (Int32.ofNat mn))] [])) _
      exact kt
    · rw [own_f, if_neg (fun z => z.elim h1 h2), own_same_set hl 0 (by decide)]
      have st11 := own_getT X0 hx hZ e0 A hl (i := 0) (by decide) rfl (g := (mkF m 19 #[.val (.ref w), s1, s2, .val (.int (Int32.ofNat la)), .val (.int (Int32.ofNat lb)), .val (.int (Int32.ofNat mn))] [(.int (0 : Int32)), (.ref w)])) rfl rfl (hb hby d5_19)
      have st12 := own_getT X0 hx hZ e0 A hl (i := 0) (by decide) rfl (g := (mkF m 26 #[.val (.ref w), s1, s2, .val (.int (Int32.ofNat la)), .val (.int (Int32.ofNat lb)), .val (.int (Int32.ofNat mn))] [(.int (0 : Int32)), (.ref w)])) rfl rfl (hb hby d5_26)
      refine ⟨T0, h0, _, X0, e0, N0, A, Keep.refl _ _, fun target kt => ?_⟩
      show Steps p.tables e below (T0.setTop (mkF m 17 #[.val (.ref w), s1, s2, .val (.int (Int32.ofNat la)), .val (.int (Int32.ofNat lb)), .val (.int (Int32.ofNat mn))] [])) _
      refine XS.aloadN X0.here hx rfl (hb hby d5_17) rfl rfl ?_
      show Steps p.tables e below (T0.setTop (mkF m 18 #[.val (.ref w), s1, s2, .val (.int (Int32.ofNat la)), .val (.int (Int32.ofNat lb)), .val (.int (Int32.ofNat mn))] [(.ref w)])) _
      refine XS.iconst X0.here hx rfl (hb hby d5_18) ?_
      show Steps p.tables e below (T0.setTop (mkF m 19 #[.val (.ref w), s1, s2, .val (.int (Int32.ofNat la)), .val (.int (Int32.ofNat lb)), .val (.int (Int32.ofNat mn))] [(.int (0 : Int32)), (.ref w)])) _
      refine st11 _ ?_
      show Steps p.tables e below (T0.setTop (mkF m 20 #[.val (.ref w), s1, s2, .val (.int (Int32.ofNat la)), .val (.int (Int32.ofNat lb)), .val (.int (Int32.ofNat mn))] [(.int (Int32.ofNat (t.getD 0 0)))])) _
      refine XS.iloadN X0.here hx rfl (hb hby d5_20) rfl ?_
      show Steps p.tables e below (T0.setTop (mkF m 21 #[.val (.ref w), s1, s2, .val (.int (Int32.ofNat la)), .val (.int (Int32.ofNat lb)), .val (.int (Int32.ofNat mn))] [(.int (Int32.ofNat la)), (.int (Int32.ofNat (t.getD 0 0)))])) _
      refine XS.icmpNo X0.here hx rfl (hb hby d5_21) rfl (feq (fun z => h1 ((own_inj ht ha).mp z))).1 ?_
      show Steps p.tables e below (T0.setTop (mkF m 24 #[.val (.ref w), s1, s2, .val (.int (Int32.ofNat la)), .val (.int (Int32.ofNat lb)), .val (.int (Int32.ofNat mn))] [])) _
      refine XS.aloadN X0.here hx rfl (hb hby d5_24) rfl rfl ?_
      show Steps p.tables e below (T0.setTop (mkF m 25 #[.val (.ref w), s1, s2, .val (.int (Int32.ofNat la)), .val (.int (Int32.ofNat lb)), .val (.int (Int32.ofNat mn))] [(.ref w)])) _
      refine XS.iconst X0.here hx rfl (hb hby d5_25) ?_
      show Steps p.tables e below (T0.setTop (mkF m 26 #[.val (.ref w), s1, s2, .val (.int (Int32.ofNat la)), .val (.int (Int32.ofNat lb)), .val (.int (Int32.ofNat mn))] [(.int (0 : Int32)), (.ref w)])) _
      refine st12 _ ?_
      show Steps p.tables e below (T0.setTop (mkF m 27 #[.val (.ref w), s1, s2, .val (.int (Int32.ofNat la)), .val (.int (Int32.ofNat lb)), .val (.int (Int32.ofNat mn))] [(.int (Int32.ofNat (t.getD 0 0)))])) _
      refine XS.iload X0.here hx rfl (hb hby d5_27) rfl ?_
      show Steps p.tables e below (T0.setTop (mkF m 29 #[.val (.ref w), s1, s2, .val (.int (Int32.ofNat la)), .val (.int (Int32.ofNat lb)), .val (.int (Int32.ofNat mn))] [(.int (Int32.ofNat lb)), (.int (Int32.ofNat (t.getD 0 0)))])) _
      refine XS.icmpYes X0.here hx rfl (pc0 := 29) (pc' := 37) rfl (hb hby d5_29) rfl (feq (fun z => h2 ((own_inj ht hb').mp z))).2 (by decide) (by decide) ?_
      show Steps p.tables e below (T0.setTop (mkF m 37 #[.val (.ref w), s1, s2, .val (.int (Int32.ofNat la)), .val (.int (Int32.ofNat lb)), .val (.int (Int32.ofNat mn))] [])) _
      exact kt
set_option maxRecDepth 65536 in
set_option maxHeartbeats 40000000 in
theorem jn1 {p : Program} {l : Launch} {e : Env} {R : Room} {s : State} {m : MethodId} {args : Array Value} {below : List Frame} {meth : Method} {c : Code} {T0 : State} {locs : List Loc} {cells slots : Nat} {Z : State} {a0 : Array Value} {h0 : Heap} (X0 : Stand p l e R s m args below meth c T0 locs cells slots) (hx : p.tables.exec = Jvm.exec) (hZ : Z.Warmed39 s.vm) (hw : ∀ d ∈ tables_1, d.before a0 Z = true) (hby : c.code = method_2_code) (hown : s.vm.findClass "com/example/spurion/spurion/semantics/JoinsNamedPinLaw" = some m.cls) (e0 : T0.heap = h0) (w : Addr) (s1 s2 : Slot) (la lb mn : Nat) (t : List Nat) (n0 : Nat) (hl : t.length = 4) (ht : t.getD 1 0 < 4) (ha : la < 4) (hb' : lb < 4) (A : own_T Z h0 w t) (gw : n0 ≤ w) (N0 : Fr n0 locs) :
    ∃ (T' : State) (h' : Heap) (locs' : List Loc), Stand p l e R s m args below meth c T' locs' cells slots ∧ T'.heap = h' ∧ Fr n0 locs' ∧ own_T Z h' w (t.set 1 (own_f la lb mn (t.getD 1 0))) ∧ Keep h0 h' [w] ∧ ∀ target, Steps p.tables e below (T'.setTop (mkF m 57 #[.val (.ref w), s1, s2, .val (.int (Int32.ofNat la)), .val (.int (Int32.ofNat lb)), .val (.int (Int32.ofNat mn))] [])) target → Steps p.tables e below (T0.setTop (mkF m 37 #[.val (.ref w), s1, s2, .val (.int (Int32.ofNat la)), .val (.int (Int32.ofNat lb)), .val (.int (Int32.ofNat mn))] [])) target := by
  by_cases h1 : (t.getD 1 0) = la
  · rw [own_f, if_pos (Or.inl h1)]
    have st11 := own_getT X0 hx hZ e0 A hl (i := 1) (by decide) rfl (g := (mkF m 39 #[.val (.ref w), s1, s2, .val (.int (Int32.ofNat la)), .val (.int (Int32.ofNat lb)), .val (.int (Int32.ofNat mn))] [(.int (1 : Int32)), (.ref w)])) rfl rfl (hb hby d5_39)
    obtain ⟨T12, h12, L12, X12, e12, N12, A12, K12, st12⟩ := own_putT X0 hx hZ e0 A hl N0 gw (i := 1) (by decide) (y := mn) rfl rfl (g := (mkF m 56 #[.val (.ref w), s1, s2, .val (.int (Int32.ofNat la)), .val (.int (Int32.ofNat lb)), .val (.int (Int32.ofNat mn))] [(.int (Int32.ofNat mn)), (.int (1 : Int32)), (.ref w)])) rfl rfl (hb hby d5_56)
    refine ⟨T12, _, _, X12, e12, N12, A12, K12, fun target kt => ?_⟩
    show Steps p.tables e below (T0.setTop (mkF m 37 #[.val (.ref w), s1, s2, .val (.int (Int32.ofNat la)), .val (.int (Int32.ofNat lb)), .val (.int (Int32.ofNat mn))] [])) _
    refine XS.aloadN X0.here hx rfl (hb hby d5_37) rfl rfl ?_
    show Steps p.tables e below (T0.setTop (mkF m 38 #[.val (.ref w), s1, s2, .val (.int (Int32.ofNat la)), .val (.int (Int32.ofNat lb)), .val (.int (Int32.ofNat mn))] [(.ref w)])) _
    refine XS.iconst X0.here hx rfl (hb hby d5_38) ?_
    show Steps p.tables e below (T0.setTop (mkF m 39 #[.val (.ref w), s1, s2, .val (.int (Int32.ofNat la)), .val (.int (Int32.ofNat lb)), .val (.int (Int32.ofNat mn))] [(.int (1 : Int32)), (.ref w)])) _
    refine st11 _ ?_
    show Steps p.tables e below (T0.setTop (mkF m 40 #[.val (.ref w), s1, s2, .val (.int (Int32.ofNat la)), .val (.int (Int32.ofNat lb)), .val (.int (Int32.ofNat mn))] [(.int (Int32.ofNat (t.getD 1 0)))])) _
    refine XS.iloadN X0.here hx rfl (hb hby d5_40) rfl ?_
    show Steps p.tables e below (T0.setTop (mkF m 41 #[.val (.ref w), s1, s2, .val (.int (Int32.ofNat la)), .val (.int (Int32.ofNat lb)), .val (.int (Int32.ofNat mn))] [(.int (Int32.ofNat la)), (.int (Int32.ofNat (t.getD 1 0)))])) _
    refine XS.icmpYes X0.here hx rfl (pc0 := 41) (pc' := 52) rfl (hb hby d5_41) rfl (teq ((own_inj ht ha).mpr h1)).1 (by decide) (by decide) ?_
    show Steps p.tables e below (T0.setTop (mkF m 52 #[.val (.ref w), s1, s2, .val (.int (Int32.ofNat la)), .val (.int (Int32.ofNat lb)), .val (.int (Int32.ofNat mn))] [])) _
    refine XS.aloadN X0.here hx rfl (hb hby d5_52) rfl rfl ?_
    show Steps p.tables e below (T0.setTop (mkF m 53 #[.val (.ref w), s1, s2, .val (.int (Int32.ofNat la)), .val (.int (Int32.ofNat lb)), .val (.int (Int32.ofNat mn))] [(.ref w)])) _
    refine XS.iconst X0.here hx rfl (hb hby d5_53) ?_
    show Steps p.tables e below (T0.setTop (mkF m 54 #[.val (.ref w), s1, s2, .val (.int (Int32.ofNat la)), .val (.int (Int32.ofNat lb)), .val (.int (Int32.ofNat mn))] [(.int (1 : Int32)), (.ref w)])) _
    refine XS.iload X0.here hx rfl (hb hby d5_54) rfl ?_
    show Steps p.tables e below (T0.setTop (mkF m 56 #[.val (.ref w), s1, s2, .val (.int (Int32.ofNat la)), .val (.int (Int32.ofNat lb)), .val (.int (Int32.ofNat mn))] [(.int (Int32.ofNat mn)), (.int (1 : Int32)), (.ref w)])) _
    refine st12 _ ?_
    show Steps p.tables e below (T12.setTop (mkF m 57 #[.val (.ref w), s1, s2, .val (.int (Int32.ofNat la)), .val (.int (Int32.ofNat lb)), .val (.int (Int32.ofNat mn))] [])) _
    exact kt
  · by_cases h2 : (t.getD 1 0) = lb
    · rw [own_f, if_pos (Or.inr h2)]
      have st11 := own_getT X0 hx hZ e0 A hl (i := 1) (by decide) rfl (g := (mkF m 39 #[.val (.ref w), s1, s2, .val (.int (Int32.ofNat la)), .val (.int (Int32.ofNat lb)), .val (.int (Int32.ofNat mn))] [(.int (1 : Int32)), (.ref w)])) rfl rfl (hb hby d5_39)
      have st12 := own_getT X0 hx hZ e0 A hl (i := 1) (by decide) rfl (g := (mkF m 46 #[.val (.ref w), s1, s2, .val (.int (Int32.ofNat la)), .val (.int (Int32.ofNat lb)), .val (.int (Int32.ofNat mn))] [(.int (1 : Int32)), (.ref w)])) rfl rfl (hb hby d5_46)
      obtain ⟨T13, h13, L13, X13, e13, N13, A13, K13, st13⟩ := own_putT X0 hx hZ e0 A hl N0 gw (i := 1) (by decide) (y := mn) rfl rfl (g := (mkF m 56 #[.val (.ref w), s1, s2, .val (.int (Int32.ofNat la)), .val (.int (Int32.ofNat lb)), .val (.int (Int32.ofNat mn))] [(.int (Int32.ofNat mn)), (.int (1 : Int32)), (.ref w)])) rfl rfl (hb hby d5_56)
      refine ⟨T13, _, _, X13, e13, N13, A13, K13, fun target kt => ?_⟩
      show Steps p.tables e below (T0.setTop (mkF m 37 #[.val (.ref w), s1, s2, .val (.int (Int32.ofNat la)), .val (.int (Int32.ofNat lb)), .val (.int (Int32.ofNat mn))] [])) _
      refine XS.aloadN X0.here hx rfl (hb hby d5_37) rfl rfl ?_
      show Steps p.tables e below (T0.setTop (mkF m 38 #[.val (.ref w), s1, s2, .val (.int (Int32.ofNat la)), .val (.int (Int32.ofNat lb)), .val (.int (Int32.ofNat mn))] [(.ref w)])) _
      refine XS.iconst X0.here hx rfl (hb hby d5_38) ?_
      show Steps p.tables e below (T0.setTop (mkF m 39 #[.val (.ref w), s1, s2, .val (.int (Int32.ofNat la)), .val (.int (Int32.ofNat lb)), .val (.int (Int32.ofNat mn))] [(.int (1 : Int32)), (.ref w)])) _
      refine st11 _ ?_
      show Steps p.tables e below (T0.setTop (mkF m 40 #[.val (.ref w), s1, s2, .val (.int (Int32.ofNat la)), .val (.int (Int32.ofNat lb)), .val (.int (Int32.ofNat mn))] [(.int (Int32.ofNat (t.getD 1 0)))])) _
      refine XS.iloadN X0.here hx rfl (hb hby d5_40) rfl ?_
      show Steps p.tables e below (T0.setTop (mkF m 41 #[.val (.ref w), s1, s2, .val (.int (Int32.ofNat la)), .val (.int (Int32.ofNat lb)), .val (.int (Int32.ofNat mn))] [(.int (Int32.ofNat la)), (.int (Int32.ofNat (t.getD 1 0)))])) _
      refine XS.icmpNo X0.here hx rfl (hb hby d5_41) rfl (feq (fun z => h1 ((own_inj ht ha).mp z))).1 ?_
      show Steps p.tables e below (T0.setTop (mkF m 44 #[.val (.ref w), s1, s2, .val (.int (Int32.ofNat la)), .val (.int (Int32.ofNat lb)), .val (.int (Int32.ofNat mn))] [])) _
      refine XS.aloadN X0.here hx rfl (hb hby d5_44) rfl rfl ?_
      show Steps p.tables e below (T0.setTop (mkF m 45 #[.val (.ref w), s1, s2, .val (.int (Int32.ofNat la)), .val (.int (Int32.ofNat lb)), .val (.int (Int32.ofNat mn))] [(.ref w)])) _
      refine XS.iconst X0.here hx rfl (hb hby d5_45) ?_
      show Steps p.tables e below (T0.setTop (mkF m 46 #[.val (.ref w), s1, s2, .val (.int (Int32.ofNat la)), .val (.int (Int32.ofNat lb)), .val (.int (Int32.ofNat mn))] [(.int (1 : Int32)), (.ref w)])) _
      refine st12 _ ?_
      show Steps p.tables e below (T0.setTop (mkF m 47 #[.val (.ref w), s1, s2, .val (.int (Int32.ofNat la)), .val (.int (Int32.ofNat lb)), .val (.int (Int32.ofNat mn))] [(.int (Int32.ofNat (t.getD 1 0)))])) _
      refine XS.iload X0.here hx rfl (hb hby d5_47) rfl ?_
      show Steps p.tables e below (T0.setTop (mkF m 49 #[.val (.ref w), s1, s2, .val (.int (Int32.ofNat la)), .val (.int (Int32.ofNat lb)), .val (.int (Int32.ofNat mn))] [(.int (Int32.ofNat lb)), (.int (Int32.ofNat (t.getD 1 0)))])) _
      refine XS.icmpNo X0.here hx rfl (hb hby d5_49) rfl (teq ((own_inj ht hb').mpr h2)).2 ?_
      show Steps p.tables e below (T0.setTop (mkF m 52 #[.val (.ref w), s1, s2, .val (.int (Int32.ofNat la)), .val (.int (Int32.ofNat lb)), .val (.int (Int32.ofNat mn))] [])) _
      refine XS.aloadN X0.here hx rfl (hb hby d5_52) rfl rfl ?_
      show Steps p.tables e below (T0.setTop (mkF m 53 #[.val (.ref w), s1, s2, .val (.int (Int32.ofNat la)), .val (.int (Int32.ofNat lb)), .val (.int (Int32.ofNat mn))] [(.ref w)])) _
      refine XS.iconst X0.here hx rfl (hb hby d5_53) ?_
      show Steps p.tables e below (T0.setTop (mkF m 54 #[.val (.ref w), s1, s2, .val (.int (Int32.ofNat la)), .val (.int (Int32.ofNat lb)), .val (.int (Int32.ofNat mn))] [(.int (1 : Int32)), (.ref w)])) _
      refine XS.iload X0.here hx rfl (hb hby d5_54) rfl ?_
      show Steps p.tables e below (T0.setTop (mkF m 56 #[.val (.ref w), s1, s2, .val (.int (Int32.ofNat la)), .val (.int (Int32.ofNat lb)), .val (.int (Int32.ofNat mn))] [(.int (Int32.ofNat mn)), (.int (1 : Int32)), (.ref w)])) _
      refine st13 _ ?_
      show Steps p.tables e below (T13.setTop (mkF m 57 #[.val (.ref w), s1, s2, .val (.int (Int32.ofNat la)), .val (.int (Int32.ofNat lb)), .val (.int (Int32.ofNat mn))] [])) _
      exact kt
    · rw [own_f, if_neg (fun z => z.elim h1 h2), own_same_set hl 1 (by decide)]
      have st11 := own_getT X0 hx hZ e0 A hl (i := 1) (by decide) rfl (g := (mkF m 39 #[.val (.ref w), s1, s2, .val (.int (Int32.ofNat la)), .val (.int (Int32.ofNat lb)), .val (.int (Int32.ofNat mn))] [(.int (1 : Int32)), (.ref w)])) rfl rfl (hb hby d5_39)
      have st12 := own_getT X0 hx hZ e0 A hl (i := 1) (by decide) rfl (g := (mkF m 46 #[.val (.ref w), s1, s2, .val (.int (Int32.ofNat la)), .val (.int (Int32.ofNat lb)), .val (.int (Int32.ofNat mn))] [(.int (1 : Int32)), (.ref w)])) rfl rfl (hb hby d5_46)
      refine ⟨T0, h0, _, X0, e0, N0, A, Keep.refl _ _, fun target kt => ?_⟩
      show Steps p.tables e below (T0.setTop (mkF m 37 #[.val (.ref w), s1, s2, .val (.int (Int32.ofNat la)), .val (.int (Int32.ofNat lb)), .val (.int (Int32.ofNat mn))] [])) _
      refine XS.aloadN X0.here hx rfl (hb hby d5_37) rfl rfl ?_
      show Steps p.tables e below (T0.setTop (mkF m 38 #[.val (.ref w), s1, s2, .val (.int (Int32.ofNat la)), .val (.int (Int32.ofNat lb)), .val (.int (Int32.ofNat mn))] [(.ref w)])) _
      refine XS.iconst X0.here hx rfl (hb hby d5_38) ?_
      show Steps p.tables e below (T0.setTop (mkF m 39 #[.val (.ref w), s1, s2, .val (.int (Int32.ofNat la)), .val (.int (Int32.ofNat lb)), .val (.int (Int32.ofNat mn))] [(.int (1 : Int32)), (.ref w)])) _
      refine st11 _ ?_
      show Steps p.tables e below (T0.setTop (mkF m 40 #[.val (.ref w), s1, s2, .val (.int (Int32.ofNat la)), .val (.int (Int32.ofNat lb)), .val (.int (Int32.ofNat mn))] [(.int (Int32.ofNat (t.getD 1 0)))])) _
      refine XS.iloadN X0.here hx rfl (hb hby d5_40) rfl ?_
      show Steps p.tables e below (T0.setTop (mkF m 41 #[.val (.ref w), s1, s2, .val (.int (Int32.ofNat la)), .val (.int (Int32.ofNat lb)), .val (.int (Int32.ofNat mn))] [(.int (Int32.ofNat la)), (.int (Int32.ofNat (t.getD 1 0)))])) _
      refine XS.icmpNo X0.here hx rfl (hb hby d5_41) rfl (feq (fun z => h1 ((own_inj ht ha).mp z))).1 ?_
      show Steps p.tables e below (T0.setTop (mkF m 44 #[.val (.ref w), s1, s2, .val (.int (Int32.ofNat la)), .val (.int (Int32.ofNat lb)), .val (.int (Int32.ofNat mn))] [])) _
      refine XS.aloadN X0.here hx rfl (hb hby d5_44) rfl rfl ?_
      show Steps p.tables e below (T0.setTop (mkF m 45 #[.val (.ref w), s1, s2, .val (.int (Int32.ofNat la)), .val (.int (Int32.ofNat lb)), .val (.int (Int32.ofNat mn))] [(.ref w)])) _
      refine XS.iconst X0.here hx rfl (hb hby d5_45) ?_
      show Steps p.tables e below (T0.setTop (mkF m 46 #[.val (.ref w), s1, s2, .val (.int (Int32.ofNat la)), .val (.int (Int32.ofNat lb)), .val (.int (Int32.ofNat mn))] [(.int (1 : Int32)), (.ref w)])) _
      refine st12 _ ?_
      show Steps p.tables e below (T0.setTop (mkF m 47 #[.val (.ref w), s1, s2, .val (.int (Int32.ofNat la)), .val (.int (Int32.ofNat lb)), .val (.int (Int32.ofNat mn))] [(.int (Int32.ofNat (t.getD 1 0)))])) _
      refine XS.iload X0.here hx rfl (hb hby d5_47) rfl ?_
      show Steps p.tables e below (T0.setTop (mkF m 49 #[.val (.ref w), s1, s2, .val (.int (Int32.ofNat la)), .val (.int (Int32.ofNat lb)), .val (.int (Int32.ofNat mn))] [(.int (Int32.ofNat lb)), (.int (Int32.ofNat (t.getD 1 0)))])) _
      refine XS.icmpYes X0.here hx rfl (pc0 := 49) (pc' := 57) rfl (hb hby d5_49) rfl (feq (fun z => h2 ((own_inj ht hb').mp z))).2 (by decide) (by decide) ?_
      show Steps p.tables e below (T0.setTop (mkF m 57 #[.val (.ref w), s1, s2, .val (.int (Int32.ofNat la)), .val (.int (Int32.ofNat lb)), .val (.int (Int32.ofNat mn))] [])) _
      exact kt
set_option maxRecDepth 65536 in
set_option maxHeartbeats 40000000 in
theorem jn2 {p : Program} {l : Launch} {e : Env} {R : Room} {s : State} {m : MethodId} {args : Array Value} {below : List Frame} {meth : Method} {c : Code} {T0 : State} {locs : List Loc} {cells slots : Nat} {Z : State} {a0 : Array Value} {h0 : Heap} (X0 : Stand p l e R s m args below meth c T0 locs cells slots) (hx : p.tables.exec = Jvm.exec) (hZ : Z.Warmed39 s.vm) (hw : ∀ d ∈ tables_1, d.before a0 Z = true) (hby : c.code = method_2_code) (hown : s.vm.findClass "com/example/spurion/spurion/semantics/JoinsNamedPinLaw" = some m.cls) (e0 : T0.heap = h0) (w : Addr) (s1 s2 : Slot) (la lb mn : Nat) (t : List Nat) (n0 : Nat) (hl : t.length = 4) (ht : t.getD 2 0 < 4) (ha : la < 4) (hb' : lb < 4) (A : own_T Z h0 w t) (gw : n0 ≤ w) (N0 : Fr n0 locs) :
    ∃ (T' : State) (h' : Heap) (locs' : List Loc), Stand p l e R s m args below meth c T' locs' cells slots ∧ T'.heap = h' ∧ Fr n0 locs' ∧ own_T Z h' w (t.set 2 (own_f la lb mn (t.getD 2 0))) ∧ Keep h0 h' [w] ∧ ∀ target, Steps p.tables e below (T'.setTop (mkF m 77 #[.val (.ref w), s1, s2, .val (.int (Int32.ofNat la)), .val (.int (Int32.ofNat lb)), .val (.int (Int32.ofNat mn))] [])) target → Steps p.tables e below (T0.setTop (mkF m 57 #[.val (.ref w), s1, s2, .val (.int (Int32.ofNat la)), .val (.int (Int32.ofNat lb)), .val (.int (Int32.ofNat mn))] [])) target := by
  by_cases h1 : (t.getD 2 0) = la
  · rw [own_f, if_pos (Or.inl h1)]
    have st11 := own_getT X0 hx hZ e0 A hl (i := 2) (by decide) rfl (g := (mkF m 59 #[.val (.ref w), s1, s2, .val (.int (Int32.ofNat la)), .val (.int (Int32.ofNat lb)), .val (.int (Int32.ofNat mn))] [(.int (2 : Int32)), (.ref w)])) rfl rfl (hb hby d5_59)
    obtain ⟨T12, h12, L12, X12, e12, N12, A12, K12, st12⟩ := own_putT X0 hx hZ e0 A hl N0 gw (i := 2) (by decide) (y := mn) rfl rfl (g := (mkF m 76 #[.val (.ref w), s1, s2, .val (.int (Int32.ofNat la)), .val (.int (Int32.ofNat lb)), .val (.int (Int32.ofNat mn))] [(.int (Int32.ofNat mn)), (.int (2 : Int32)), (.ref w)])) rfl rfl (hb hby d5_76)
    refine ⟨T12, _, _, X12, e12, N12, A12, K12, fun target kt => ?_⟩
    show Steps p.tables e below (T0.setTop (mkF m 57 #[.val (.ref w), s1, s2, .val (.int (Int32.ofNat la)), .val (.int (Int32.ofNat lb)), .val (.int (Int32.ofNat mn))] [])) _
    refine XS.aloadN X0.here hx rfl (hb hby d5_57) rfl rfl ?_
    show Steps p.tables e below (T0.setTop (mkF m 58 #[.val (.ref w), s1, s2, .val (.int (Int32.ofNat la)), .val (.int (Int32.ofNat lb)), .val (.int (Int32.ofNat mn))] [(.ref w)])) _
    refine XS.iconst X0.here hx rfl (hb hby d5_58) ?_
    show Steps p.tables e below (T0.setTop (mkF m 59 #[.val (.ref w), s1, s2, .val (.int (Int32.ofNat la)), .val (.int (Int32.ofNat lb)), .val (.int (Int32.ofNat mn))] [(.int (2 : Int32)), (.ref w)])) _
    refine st11 _ ?_
    show Steps p.tables e below (T0.setTop (mkF m 60 #[.val (.ref w), s1, s2, .val (.int (Int32.ofNat la)), .val (.int (Int32.ofNat lb)), .val (.int (Int32.ofNat mn))] [(.int (Int32.ofNat (t.getD 2 0)))])) _
    refine XS.iloadN X0.here hx rfl (hb hby d5_60) rfl ?_
    show Steps p.tables e below (T0.setTop (mkF m 61 #[.val (.ref w), s1, s2, .val (.int (Int32.ofNat la)), .val (.int (Int32.ofNat lb)), .val (.int (Int32.ofNat mn))] [(.int (Int32.ofNat la)), (.int (Int32.ofNat (t.getD 2 0)))])) _
    refine XS.icmpYes X0.here hx rfl (pc0 := 61) (pc' := 72) rfl (hb hby d5_61) rfl (teq ((own_inj ht ha).mpr h1)).1 (by decide) (by decide) ?_
    show Steps p.tables e below (T0.setTop (mkF m 72 #[.val (.ref w), s1, s2, .val (.int (Int32.ofNat la)), .val (.int (Int32.ofNat lb)), .val (.int (Int32.ofNat mn))] [])) _
    refine XS.aloadN X0.here hx rfl (hb hby d5_72) rfl rfl ?_
    show Steps p.tables e below (T0.setTop (mkF m 73 #[.val (.ref w), s1, s2, .val (.int (Int32.ofNat la)), .val (.int (Int32.ofNat lb)), .val (.int (Int32.ofNat mn))] [(.ref w)])) _
    refine XS.iconst X0.here hx rfl (hb hby d5_73) ?_
    show Steps p.tables e below (T0.setTop (mkF m 74 #[.val (.ref w), s1, s2, .val (.int (Int32.ofNat la)), .val (.int (Int32.ofNat lb)), .val (.int (Int32.ofNat mn))] [(.int (2 : Int32)), (.ref w)])) _
    refine XS.iload X0.here hx rfl (hb hby d5_74) rfl ?_
    show Steps p.tables e below (T0.setTop (mkF m 76 #[.val (.ref w), s1, s2, .val (.int (Int32.ofNat la)), .val (.int (Int32.ofNat lb)), .val (.int (Int32.ofNat mn))] [(.int (Int32.ofNat mn)), (.int (2 : Int32)), (.ref w)])) _
    refine st12 _ ?_
    show Steps p.tables e below (T12.setTop (mkF m 77 #[.val (.ref w), s1, s2, .val (.int (Int32.ofNat la)), .val (.int (Int32.ofNat lb)), .val (.int (Int32.ofNat mn))] [])) _
    exact kt
  · by_cases h2 : (t.getD 2 0) = lb
    · rw [own_f, if_pos (Or.inr h2)]
      have st11 := own_getT X0 hx hZ e0 A hl (i := 2) (by decide) rfl (g := (mkF m 59 #[.val (.ref w), s1, s2, .val (.int (Int32.ofNat la)), .val (.int (Int32.ofNat lb)), .val (.int (Int32.ofNat mn))] [(.int (2 : Int32)), (.ref w)])) rfl rfl (hb hby d5_59)
      have st12 := own_getT X0 hx hZ e0 A hl (i := 2) (by decide) rfl (g := (mkF m 66 #[.val (.ref w), s1, s2, .val (.int (Int32.ofNat la)), .val (.int (Int32.ofNat lb)), .val (.int (Int32.ofNat mn))] [(.int (2 : Int32)), (.ref w)])) rfl rfl (hb hby d5_66)
      obtain ⟨T13, h13, L13, X13, e13, N13, A13, K13, st13⟩ := own_putT X0 hx hZ e0 A hl N0 gw (i := 2) (by decide) (y := mn) rfl rfl (g := (mkF m 76 #[.val (.ref w), s1, s2, .val (.int (Int32.ofNat la)), .val (.int (Int32.ofNat lb)), .val (.int (Int32.ofNat mn))] [(.int (Int32.ofNat mn)), (.int (2 : Int32)), (.ref w)])) rfl rfl (hb hby d5_76)
      refine ⟨T13, _, _, X13, e13, N13, A13, K13, fun target kt => ?_⟩
      show Steps p.tables e below (T0.setTop (mkF m 57 #[.val (.ref w), s1, s2, .val (.int (Int32.ofNat la)), .val (.int (Int32.ofNat lb)), .val (.int (Int32.ofNat mn))] [])) _
      refine XS.aloadN X0.here hx rfl (hb hby d5_57) rfl rfl ?_
      show Steps p.tables e below (T0.setTop (mkF m 58 #[.val (.ref w), s1, s2, .val (.int (Int32.ofNat la)), .val (.int (Int32.ofNat lb)), .val (.int (Int32.ofNat mn))] [(.ref w)])) _
      refine XS.iconst X0.here hx rfl (hb hby d5_58) ?_
      show Steps p.tables e below (T0.setTop (mkF m 59 #[.val (.ref w), s1, s2, .val (.int (Int32.ofNat la)), .val (.int (Int32.ofNat lb)), .val (.int (Int32.ofNat mn))] [(.int (2 : Int32)), (.ref w)])) _
      refine st11 _ ?_
      show Steps p.tables e below (T0.setTop (mkF m 60 #[.val (.ref w), s1, s2, .val (.int (Int32.ofNat la)), .val (.int (Int32.ofNat lb)), .val (.int (Int32.ofNat mn))] [(.int (Int32.ofNat (t.getD 2 0)))])) _
      refine XS.iloadN X0.here hx rfl (hb hby d5_60) rfl ?_
      show Steps p.tables e below (T0.setTop (mkF m 61 #[.val (.ref w), s1, s2, .val (.int (Int32.ofNat la)), .val (.int (Int32.ofNat lb)), .val (.int (Int32.ofNat mn))] [(.int (Int32.ofNat la)), (.int (Int32.ofNat (t.getD 2 0)))])) _
      refine XS.icmpNo X0.here hx rfl (hb hby d5_61) rfl (feq (fun z => h1 ((own_inj ht ha).mp z))).1 ?_
      show Steps p.tables e below (T0.setTop (mkF m 64 #[.val (.ref w), s1, s2, .val (.int (Int32.ofNat la)), .val (.int (Int32.ofNat lb)), .val (.int (Int32.ofNat mn))] [])) _
      refine XS.aloadN X0.here hx rfl (hb hby d5_64) rfl rfl ?_
      show Steps p.tables e below (T0.setTop (mkF m 65 #[.val (.ref w), s1, s2, .val (.int (Int32.ofNat la)), .val (.int (Int32.ofNat lb)), .val (.int (Int32.ofNat mn))] [(.ref w)])) _
      refine XS.iconst X0.here hx rfl (hb hby d5_65) ?_
      show Steps p.tables e below (T0.setTop (mkF m 66 #[.val (.ref w), s1, s2, .val (.int (Int32.ofNat la)), .val (.int (Int32.ofNat lb)), .val (.int (Int32.ofNat mn))] [(.int (2 : Int32)), (.ref w)])) _
      refine st12 _ ?_
      show Steps p.tables e below (T0.setTop (mkF m 67 #[.val (.ref w), s1, s2, .val (.int (Int32.ofNat la)), .val (.int (Int32.ofNat lb)), .val (.int (Int32.ofNat mn))] [(.int (Int32.ofNat (t.getD 2 0)))])) _
      refine XS.iload X0.here hx rfl (hb hby d5_67) rfl ?_
      show Steps p.tables e below (T0.setTop (mkF m 69 #[.val (.ref w), s1, s2, .val (.int (Int32.ofNat la)), .val (.int (Int32.ofNat lb)), .val (.int (Int32.ofNat mn))] [(.int (Int32.ofNat lb)), (.int (Int32.ofNat (t.getD 2 0)))])) _
      refine XS.icmpNo X0.here hx rfl (hb hby d5_69) rfl (teq ((own_inj ht hb').mpr h2)).2 ?_
      show Steps p.tables e below (T0.setTop (mkF m 72 #[.val (.ref w), s1, s2, .val (.int (Int32.ofNat la)), .val (.int (Int32.ofNat lb)), .val (.int (Int32.ofNat mn))] [])) _
      refine XS.aloadN X0.here hx rfl (hb hby d5_72) rfl rfl ?_
      show Steps p.tables e below (T0.setTop (mkF m 73 #[.val (.ref w), s1, s2, .val (.int (Int32.ofNat la)), .val (.int (Int32.ofNat lb)), .val (.int (Int32.ofNat mn))] [(.ref w)])) _
      refine XS.iconst X0.here hx rfl (hb hby d5_73) ?_
      show Steps p.tables e below (T0.setTop (mkF m 74 #[.val (.ref w), s1, s2, .val (.int (Int32.ofNat la)), .val (.int (Int32.ofNat lb)), .val (.int (Int32.ofNat mn))] [(.int (2 : Int32)), (.ref w)])) _
      refine XS.iload X0.here hx rfl (hb hby d5_74) rfl ?_
      show Steps p.tables e below (T0.setTop (mkF m 76 #[.val (.ref w), s1, s2, .val (.int (Int32.ofNat la)), .val (.int (Int32.ofNat lb)), .val (.int (Int32.ofNat mn))] [(.int (Int32.ofNat mn)), (.int (2 : Int32)), (.ref w)])) _
      refine st13 _ ?_
      show Steps p.tables e below (T13.setTop (mkF m 77 #[.val (.ref w), s1, s2, .val (.int (Int32.ofNat la)), .val (.int (Int32.ofNat lb)), .val (.int (Int32.ofNat mn))] [])) _
      exact kt
    · rw [own_f, if_neg (fun z => z.elim h1 h2), own_same_set hl 2 (by decide)]
      have st11 := own_getT X0 hx hZ e0 A hl (i := 2) (by decide) rfl (g := (mkF m 59 #[.val (.ref w), s1, s2, .val (.int (Int32.ofNat la)), .val (.int (Int32.ofNat lb)), .val (.int (Int32.ofNat mn))] [(.int (2 : Int32)), (.ref w)])) rfl rfl (hb hby d5_59)
      have st12 := own_getT X0 hx hZ e0 A hl (i := 2) (by decide) rfl (g := (mkF m 66 #[.val (.ref w), s1, s2, .val (.int (Int32.ofNat la)), .val (.int (Int32.ofNat lb)), .val (.int (Int32.ofNat mn))] [(.int (2 : Int32)), (.ref w)])) rfl rfl (hb hby d5_66)
      refine ⟨T0, h0, _, X0, e0, N0, A, Keep.refl _ _, fun target kt => ?_⟩
      show Steps p.tables e below (T0.setTop (mkF m 57 #[.val (.ref w), s1, s2, .val (.int (Int32.ofNat la)), .val (.int (Int32.ofNat lb)), .val (.int (Int32.ofNat mn))] [])) _
      refine XS.aloadN X0.here hx rfl (hb hby d5_57) rfl rfl ?_
      show Steps p.tables e below (T0.setTop (mkF m 58 #[.val (.ref w), s1, s2, .val (.int (Int32.ofNat la)), .val (.int (Int32.ofNat lb)), .val (.int (Int32.ofNat mn))] [(.ref w)])) _
      refine XS.iconst X0.here hx rfl (hb hby d5_58) ?_
      show Steps p.tables e below (T0.setTop (mkF m 59 #[.val (.ref w), s1, s2, .val (.int (Int32.ofNat la)), .val (.int (Int32.ofNat lb)), .val (.int (Int32.ofNat mn))] [(.int (2 : Int32)), (.ref w)])) _
      refine st11 _ ?_
      show Steps p.tables e below (T0.setTop (mkF m 60 #[.val (.ref w), s1, s2, .val (.int (Int32.ofNat la)), .val (.int (Int32.ofNat lb)), .val (.int (Int32.ofNat mn))] [(.int (Int32.ofNat (t.getD 2 0)))])) _
      refine XS.iloadN X0.here hx rfl (hb hby d5_60) rfl ?_
      show Steps p.tables e below (T0.setTop (mkF m 61 #[.val (.ref w), s1, s2, .val (.int (Int32.ofNat la)), .val (.int (Int32.ofNat lb)), .val (.int (Int32.ofNat mn))] [(.int (Int32.ofNat la)), (.int (Int32.ofNat (t.getD 2 0)))])) _
      refine XS.icmpNo X0.here hx rfl (hb hby d5_61) rfl (feq (fun z => h1 ((own_inj ht ha).mp z))).1 ?_
      show Steps p.tables e below (T0.setTop (mkF m 64 #[.val (.ref w), s1, s2, .val (.int (Int32.ofNat la)), .val (.int (Int32.ofNat lb)), .val (.int (Int32.ofNat mn))] [])) _
      refine XS.aloadN X0.here hx rfl (hb hby d5_64) rfl rfl ?_
      show Steps p.tables e below (T0.setTop (mkF m 65 #[.val (.ref w), s1, s2, .val (.int (Int32.ofNat la)), .val (.int (Int32.ofNat lb)), .val (.int (Int32.ofNat mn))] [(.ref w)])) _
      refine XS.iconst X0.here hx rfl (hb hby d5_65) ?_
      show Steps p.tables e below (T0.setTop (mkF m 66 #[.val (.ref w), s1, s2, .val (.int (Int32.ofNat la)), .val (.int (Int32.ofNat lb)), .val (.int (Int32.ofNat mn))] [(.int (2 : Int32)), (.ref w)])) _
      refine st12 _ ?_
      show Steps p.tables e below (T0.setTop (mkF m 67 #[.val (.ref w), s1, s2, .val (.int (Int32.ofNat la)), .val (.int (Int32.ofNat lb)), .val (.int (Int32.ofNat mn))] [(.int (Int32.ofNat (t.getD 2 0)))])) _
      refine XS.iload X0.here hx rfl (hb hby d5_67) rfl ?_
      show Steps p.tables e below (T0.setTop (mkF m 69 #[.val (.ref w), s1, s2, .val (.int (Int32.ofNat la)), .val (.int (Int32.ofNat lb)), .val (.int (Int32.ofNat mn))] [(.int (Int32.ofNat lb)), (.int (Int32.ofNat (t.getD 2 0)))])) _
      refine XS.icmpYes X0.here hx rfl (pc0 := 69) (pc' := 77) rfl (hb hby d5_69) rfl (feq (fun z => h2 ((own_inj ht hb').mp z))).2 (by decide) (by decide) ?_
      show Steps p.tables e below (T0.setTop (mkF m 77 #[.val (.ref w), s1, s2, .val (.int (Int32.ofNat la)), .val (.int (Int32.ofNat lb)), .val (.int (Int32.ofNat mn))] [])) _
      exact kt
set_option maxRecDepth 65536 in
set_option maxHeartbeats 40000000 in
theorem jn3 {p : Program} {l : Launch} {e : Env} {R : Room} {s : State} {m : MethodId} {args : Array Value} {below : List Frame} {meth : Method} {c : Code} {T0 : State} {locs : List Loc} {cells slots : Nat} {Z : State} {a0 : Array Value} {h0 : Heap} (X0 : Stand p l e R s m args below meth c T0 locs cells slots) (hx : p.tables.exec = Jvm.exec) (hZ : Z.Warmed39 s.vm) (hw : ∀ d ∈ tables_1, d.before a0 Z = true) (hby : c.code = method_2_code) (hown : s.vm.findClass "com/example/spurion/spurion/semantics/JoinsNamedPinLaw" = some m.cls) (e0 : T0.heap = h0) (w : Addr) (s1 s2 : Slot) (la lb mn : Nat) (t : List Nat) (n0 : Nat) (hl : t.length = 4) (ht : t.getD 3 0 < 4) (ha : la < 4) (hb' : lb < 4) (A : own_T Z h0 w t) (gw : n0 ≤ w) (N0 : Fr n0 locs) :
    ∃ (T' : State) (h' : Heap) (locs' : List Loc), Stand p l e R s m args below meth c T' locs' cells slots ∧ T'.heap = h' ∧ Fr n0 locs' ∧ own_T Z h' w (t.set 3 (own_f la lb mn (t.getD 3 0))) ∧ Keep h0 h' [w] ∧ ∀ target, Steps p.tables e below (T'.setTop (mkF m 97 #[.val (.ref w), s1, s2, .val (.int (Int32.ofNat la)), .val (.int (Int32.ofNat lb)), .val (.int (Int32.ofNat mn))] [])) target → Steps p.tables e below (T0.setTop (mkF m 77 #[.val (.ref w), s1, s2, .val (.int (Int32.ofNat la)), .val (.int (Int32.ofNat lb)), .val (.int (Int32.ofNat mn))] [])) target := by
  by_cases h1 : (t.getD 3 0) = la
  · rw [own_f, if_pos (Or.inl h1)]
    have st11 := own_getT X0 hx hZ e0 A hl (i := 3) (by decide) rfl (g := (mkF m 79 #[.val (.ref w), s1, s2, .val (.int (Int32.ofNat la)), .val (.int (Int32.ofNat lb)), .val (.int (Int32.ofNat mn))] [(.int (3 : Int32)), (.ref w)])) rfl rfl (hb hby d5_79)
    obtain ⟨T12, h12, L12, X12, e12, N12, A12, K12, st12⟩ := own_putT X0 hx hZ e0 A hl N0 gw (i := 3) (by decide) (y := mn) rfl rfl (g := (mkF m 96 #[.val (.ref w), s1, s2, .val (.int (Int32.ofNat la)), .val (.int (Int32.ofNat lb)), .val (.int (Int32.ofNat mn))] [(.int (Int32.ofNat mn)), (.int (3 : Int32)), (.ref w)])) rfl rfl (hb hby d5_96)
    refine ⟨T12, _, _, X12, e12, N12, A12, K12, fun target kt => ?_⟩
    show Steps p.tables e below (T0.setTop (mkF m 77 #[.val (.ref w), s1, s2, .val (.int (Int32.ofNat la)), .val (.int (Int32.ofNat lb)), .val (.int (Int32.ofNat mn))] [])) _
    refine XS.aloadN X0.here hx rfl (hb hby d5_77) rfl rfl ?_
    show Steps p.tables e below (T0.setTop (mkF m 78 #[.val (.ref w), s1, s2, .val (.int (Int32.ofNat la)), .val (.int (Int32.ofNat lb)), .val (.int (Int32.ofNat mn))] [(.ref w)])) _
    refine XS.iconst X0.here hx rfl (hb hby d5_78) ?_
    show Steps p.tables e below (T0.setTop (mkF m 79 #[.val (.ref w), s1, s2, .val (.int (Int32.ofNat la)), .val (.int (Int32.ofNat lb)), .val (.int (Int32.ofNat mn))] [(.int (3 : Int32)), (.ref w)])) _
    refine st11 _ ?_
    show Steps p.tables e below (T0.setTop (mkF m 80 #[.val (.ref w), s1, s2, .val (.int (Int32.ofNat la)), .val (.int (Int32.ofNat lb)), .val (.int (Int32.ofNat mn))] [(.int (Int32.ofNat (t.getD 3 0)))])) _
    refine XS.iloadN X0.here hx rfl (hb hby d5_80) rfl ?_
    show Steps p.tables e below (T0.setTop (mkF m 81 #[.val (.ref w), s1, s2, .val (.int (Int32.ofNat la)), .val (.int (Int32.ofNat lb)), .val (.int (Int32.ofNat mn))] [(.int (Int32.ofNat la)), (.int (Int32.ofNat (t.getD 3 0)))])) _
    refine XS.icmpYes X0.here hx rfl (pc0 := 81) (pc' := 92) rfl (hb hby d5_81) rfl (teq ((own_inj ht ha).mpr h1)).1 (by decide) (by decide) ?_
    show Steps p.tables e below (T0.setTop (mkF m 92 #[.val (.ref w), s1, s2, .val (.int (Int32.ofNat la)), .val (.int (Int32.ofNat lb)), .val (.int (Int32.ofNat mn))] [])) _
    refine XS.aloadN X0.here hx rfl (hb hby d5_92) rfl rfl ?_
    show Steps p.tables e below (T0.setTop (mkF m 93 #[.val (.ref w), s1, s2, .val (.int (Int32.ofNat la)), .val (.int (Int32.ofNat lb)), .val (.int (Int32.ofNat mn))] [(.ref w)])) _
    refine XS.iconst X0.here hx rfl (hb hby d5_93) ?_
    show Steps p.tables e below (T0.setTop (mkF m 94 #[.val (.ref w), s1, s2, .val (.int (Int32.ofNat la)), .val (.int (Int32.ofNat lb)), .val (.int (Int32.ofNat mn))] [(.int (3 : Int32)), (.ref w)])) _
    refine XS.iload X0.here hx rfl (hb hby d5_94) rfl ?_
    show Steps p.tables e below (T0.setTop (mkF m 96 #[.val (.ref w), s1, s2, .val (.int (Int32.ofNat la)), .val (.int (Int32.ofNat lb)), .val (.int (Int32.ofNat mn))] [(.int (Int32.ofNat mn)), (.int (3 : Int32)), (.ref w)])) _
    refine st12 _ ?_
    show Steps p.tables e below (T12.setTop (mkF m 97 #[.val (.ref w), s1, s2, .val (.int (Int32.ofNat la)), .val (.int (Int32.ofNat lb)), .val (.int (Int32.ofNat mn))] [])) _
    exact kt
  · by_cases h2 : (t.getD 3 0) = lb
    · rw [own_f, if_pos (Or.inr h2)]
      have st11 := own_getT X0 hx hZ e0 A hl (i := 3) (by decide) rfl (g := (mkF m 79 #[.val (.ref w), s1, s2, .val (.int (Int32.ofNat la)), .val (.int (Int32.ofNat lb)), .val (.int (Int32.ofNat mn))] [(.int (3 : Int32)), (.ref w)])) rfl rfl (hb hby d5_79)
      have st12 := own_getT X0 hx hZ e0 A hl (i := 3) (by decide) rfl (g := (mkF m 86 #[.val (.ref w), s1, s2, .val (.int (Int32.ofNat la)), .val (.int (Int32.ofNat lb)), .val (.int (Int32.ofNat mn))] [(.int (3 : Int32)), (.ref w)])) rfl rfl (hb hby d5_86)
      obtain ⟨T13, h13, L13, X13, e13, N13, A13, K13, st13⟩ := own_putT X0 hx hZ e0 A hl N0 gw (i := 3) (by decide) (y := mn) rfl rfl (g := (mkF m 96 #[.val (.ref w), s1, s2, .val (.int (Int32.ofNat la)), .val (.int (Int32.ofNat lb)), .val (.int (Int32.ofNat mn))] [(.int (Int32.ofNat mn)), (.int (3 : Int32)), (.ref w)])) rfl rfl (hb hby d5_96)
      refine ⟨T13, _, _, X13, e13, N13, A13, K13, fun target kt => ?_⟩
      show Steps p.tables e below (T0.setTop (mkF m 77 #[.val (.ref w), s1, s2, .val (.int (Int32.ofNat la)), .val (.int (Int32.ofNat lb)), .val (.int (Int32.ofNat mn))] [])) _
      refine XS.aloadN X0.here hx rfl (hb hby d5_77) rfl rfl ?_
      show Steps p.tables e below (T0.setTop (mkF m 78 #[.val (.ref w), s1, s2, .val (.int (Int32.ofNat la)), .val (.int (Int32.ofNat lb)), .val (.int (Int32.ofNat mn))] [(.ref w)])) _
      refine XS.iconst X0.here hx rfl (hb hby d5_78) ?_
      show Steps p.tables e below (T0.setTop (mkF m 79 #[.val (.ref w), s1, s2, .val (.int (Int32.ofNat la)), .val (.int (Int32.ofNat lb)), .val (.int (Int32.ofNat mn))] [(.int (3 : Int32)), (.ref w)])) _
      refine st11 _ ?_
      show Steps p.tables e below (T0.setTop (mkF m 80 #[.val (.ref w), s1, s2, .val (.int (Int32.ofNat la)), .val (.int (Int32.ofNat lb)), .val (.int (Int32.ofNat mn))] [(.int (Int32.ofNat (t.getD 3 0)))])) _
      refine XS.iloadN X0.here hx rfl (hb hby d5_80) rfl ?_
      show Steps p.tables e below (T0.setTop (mkF m 81 #[.val (.ref w), s1, s2, .val (.int (Int32.ofNat la)), .val (.int (Int32.ofNat lb)), .val (.int (Int32.ofNat mn))] [(.int (Int32.ofNat la)), (.int (Int32.ofNat (t.getD 3 0)))])) _
      refine XS.icmpNo X0.here hx rfl (hb hby d5_81) rfl (feq (fun z => h1 ((own_inj ht ha).mp z))).1 ?_
      show Steps p.tables e below (T0.setTop (mkF m 84 #[.val (.ref w), s1, s2, .val (.int (Int32.ofNat la)), .val (.int (Int32.ofNat lb)), .val (.int (Int32.ofNat mn))] [])) _
      refine XS.aloadN X0.here hx rfl (hb hby d5_84) rfl rfl ?_
      show Steps p.tables e below (T0.setTop (mkF m 85 #[.val (.ref w), s1, s2, .val (.int (Int32.ofNat la)), .val (.int (Int32.ofNat lb)), .val (.int (Int32.ofNat mn))] [(.ref w)])) _
      refine XS.iconst X0.here hx rfl (hb hby d5_85) ?_
      show Steps p.tables e below (T0.setTop (mkF m 86 #[.val (.ref w), s1, s2, .val (.int (Int32.ofNat la)), .val (.int (Int32.ofNat lb)), .val (.int (Int32.ofNat mn))] [(.int (3 : Int32)), (.ref w)])) _
      refine st12 _ ?_
      show Steps p.tables e below (T0.setTop (mkF m 87 #[.val (.ref w), s1, s2, .val (.int (Int32.ofNat la)), .val (.int (Int32.ofNat lb)), .val (.int (Int32.ofNat mn))] [(.int (Int32.ofNat (t.getD 3 0)))])) _
      refine XS.iload X0.here hx rfl (hb hby d5_87) rfl ?_
      show Steps p.tables e below (T0.setTop (mkF m 89 #[.val (.ref w), s1, s2, .val (.int (Int32.ofNat la)), .val (.int (Int32.ofNat lb)), .val (.int (Int32.ofNat mn))] [(.int (Int32.ofNat lb)), (.int (Int32.ofNat (t.getD 3 0)))])) _
      refine XS.icmpNo X0.here hx rfl (hb hby d5_89) rfl (teq ((own_inj ht hb').mpr h2)).2 ?_
      show Steps p.tables e below (T0.setTop (mkF m 92 #[.val (.ref w), s1, s2, .val (.int (Int32.ofNat la)), .val (.int (Int32.ofNat lb)), .val (.int (Int32.ofNat mn))] [])) _
      refine XS.aloadN X0.here hx rfl (hb hby d5_92) rfl rfl ?_
      show Steps p.tables e below (T0.setTop (mkF m 93 #[.val (.ref w), s1, s2, .val (.int (Int32.ofNat la)), .val (.int (Int32.ofNat lb)), .val (.int (Int32.ofNat mn))] [(.ref w)])) _
      refine XS.iconst X0.here hx rfl (hb hby d5_93) ?_
      show Steps p.tables e below (T0.setTop (mkF m 94 #[.val (.ref w), s1, s2, .val (.int (Int32.ofNat la)), .val (.int (Int32.ofNat lb)), .val (.int (Int32.ofNat mn))] [(.int (3 : Int32)), (.ref w)])) _
      refine XS.iload X0.here hx rfl (hb hby d5_94) rfl ?_
      show Steps p.tables e below (T0.setTop (mkF m 96 #[.val (.ref w), s1, s2, .val (.int (Int32.ofNat la)), .val (.int (Int32.ofNat lb)), .val (.int (Int32.ofNat mn))] [(.int (Int32.ofNat mn)), (.int (3 : Int32)), (.ref w)])) _
      refine st13 _ ?_
      show Steps p.tables e below (T13.setTop (mkF m 97 #[.val (.ref w), s1, s2, .val (.int (Int32.ofNat la)), .val (.int (Int32.ofNat lb)), .val (.int (Int32.ofNat mn))] [])) _
      exact kt
    · rw [own_f, if_neg (fun z => z.elim h1 h2), own_same_set hl 3 (by decide)]
      have st11 := own_getT X0 hx hZ e0 A hl (i := 3) (by decide) rfl (g := (mkF m 79 #[.val (.ref w), s1, s2, .val (.int (Int32.ofNat la)), .val (.int (Int32.ofNat lb)), .val (.int (Int32.ofNat mn))] [(.int (3 : Int32)), (.ref w)])) rfl rfl (hb hby d5_79)
      have st12 := own_getT X0 hx hZ e0 A hl (i := 3) (by decide) rfl (g := (mkF m 86 #[.val (.ref w), s1, s2, .val (.int (Int32.ofNat la)), .val (.int (Int32.ofNat lb)), .val (.int (Int32.ofNat mn))] [(.int (3 : Int32)), (.ref w)])) rfl rfl (hb hby d5_86)
      refine ⟨T0, h0, _, X0, e0, N0, A, Keep.refl _ _, fun target kt => ?_⟩
      show Steps p.tables e below (T0.setTop (mkF m 77 #[.val (.ref w), s1, s2, .val (.int (Int32.ofNat la)), .val (.int (Int32.ofNat lb)), .val (.int (Int32.ofNat mn))] [])) _
      refine XS.aloadN X0.here hx rfl (hb hby d5_77) rfl rfl ?_
      show Steps p.tables e below (T0.setTop (mkF m 78 #[.val (.ref w), s1, s2, .val (.int (Int32.ofNat la)), .val (.int (Int32.ofNat lb)), .val (.int (Int32.ofNat mn))] [(.ref w)])) _
      refine XS.iconst X0.here hx rfl (hb hby d5_78) ?_
      show Steps p.tables e below (T0.setTop (mkF m 79 #[.val (.ref w), s1, s2, .val (.int (Int32.ofNat la)), .val (.int (Int32.ofNat lb)), .val (.int (Int32.ofNat mn))] [(.int (3 : Int32)), (.ref w)])) _
      refine st11 _ ?_
      show Steps p.tables e below (T0.setTop (mkF m 80 #[.val (.ref w), s1, s2, .val (.int (Int32.ofNat la)), .val (.int (Int32.ofNat lb)), .val (.int (Int32.ofNat mn))] [(.int (Int32.ofNat (t.getD 3 0)))])) _
      refine XS.iloadN X0.here hx rfl (hb hby d5_80) rfl ?_
      show Steps p.tables e below (T0.setTop (mkF m 81 #[.val (.ref w), s1, s2, .val (.int (Int32.ofNat la)), .val (.int (Int32.ofNat lb)), .val (.int (Int32.ofNat mn))] [(.int (Int32.ofNat la)), (.int (Int32.ofNat (t.getD 3 0)))])) _
      refine XS.icmpNo X0.here hx rfl (hb hby d5_81) rfl (feq (fun z => h1 ((own_inj ht ha).mp z))).1 ?_
      show Steps p.tables e below (T0.setTop (mkF m 84 #[.val (.ref w), s1, s2, .val (.int (Int32.ofNat la)), .val (.int (Int32.ofNat lb)), .val (.int (Int32.ofNat mn))] [])) _
      refine XS.aloadN X0.here hx rfl (hb hby d5_84) rfl rfl ?_
      show Steps p.tables e below (T0.setTop (mkF m 85 #[.val (.ref w), s1, s2, .val (.int (Int32.ofNat la)), .val (.int (Int32.ofNat lb)), .val (.int (Int32.ofNat mn))] [(.ref w)])) _
      refine XS.iconst X0.here hx rfl (hb hby d5_85) ?_
      show Steps p.tables e below (T0.setTop (mkF m 86 #[.val (.ref w), s1, s2, .val (.int (Int32.ofNat la)), .val (.int (Int32.ofNat lb)), .val (.int (Int32.ofNat mn))] [(.int (3 : Int32)), (.ref w)])) _
      refine st12 _ ?_
      show Steps p.tables e below (T0.setTop (mkF m 87 #[.val (.ref w), s1, s2, .val (.int (Int32.ofNat la)), .val (.int (Int32.ofNat lb)), .val (.int (Int32.ofNat mn))] [(.int (Int32.ofNat (t.getD 3 0)))])) _
      refine XS.iload X0.here hx rfl (hb hby d5_87) rfl ?_
      show Steps p.tables e below (T0.setTop (mkF m 89 #[.val (.ref w), s1, s2, .val (.int (Int32.ofNat la)), .val (.int (Int32.ofNat lb)), .val (.int (Int32.ofNat mn))] [(.int (Int32.ofNat lb)), (.int (Int32.ofNat (t.getD 3 0)))])) _
      refine XS.icmpYes X0.here hx rfl (pc0 := 89) (pc' := 97) rfl (hb hby d5_89) rfl (feq (fun z => h2 ((own_inj ht hb').mp z))).2 (by decide) (by decide) ?_
      show Steps p.tables e below (T0.setTop (mkF m 97 #[.val (.ref w), s1, s2, .val (.int (Int32.ofNat la)), .val (.int (Int32.ofNat lb)), .val (.int (Int32.ofNat mn))] [])) _
      exact kt
def Q5 (Z : State) (w : Addr) (t : List Nat) (i j : Nat) (h0 : Heap) (n0 : Nat) (v : Option Value) (h : Heap) (L : List Loc) : Prop := v = none ∧ Fr n0 L ∧ Keep h0 h [w] ∧ own_T Z h w (own_join t i j)
theorem pn_0 : plainName "com/example/spurion/spurion/semantics/JoinsNamedPinLaw" = true := by first | (simp [plainName, overriddenIn]; done) | decide +kernel
set_option maxRecDepth 65536 in
set_option maxHeartbeats 40000000 in
theorem rm5 (l : Launch) (Z : State) (a0 : Array Value) (hw : ∀ d ∈ tables_1, d.before a0 Z = true) (ws : List Jvm.Cond) (w : Addr) (t : List Nat) (i j : Nat) (h0 : Heap) (n0 : Nat) (hl : t.length = 4) (ht : ∀ q, q < 4 → t.getD q 0 < 4) (hi : i < 4) (hj : j < 4) (A : own_T Z h0 w t) (gw : n0 ≤ w) :
    MetFree l (⟨"com/example/spurion/spurion/semantics/JoinsNamedPinLaw", "join", "([III)V"⟩ : MethodName) (head1 (Jvm.Cond.code (⟨"com/example/spurion/spurion/semantics/JoinsNamedPinLaw", "join", "([III)V"⟩ : MethodName) method_2_code 6 none :: ws) ({ frames := 1, cells := 0, slots := 0, locals := 13 } : Room)) (fun a U => a = #[(.ref w), (.int (Int32.ofNat i)), (.int (Int32.ofNat j))] ∧ Z.Warmed39 U.vm ∧ U.heap = h0) (fun _ _ _ _ _ => True) (fun _ U oc U' => ∃ v L, oc = .returned v ∧ Q5 Z w t i j h0 n0 v U'.heap L ∧ FrameEnd U oc U' L ({ frames := 1, cells := 0, slots := 0, locals := 13 } : Room).cells ({ frames := 1, cells := 0, slots := 0, locals := 13 } : Room).slots) := by
  refine MetFree.of_bodySF (plainFor_of_name pn_0) hisR ?_
  intro p e s m args below meth c s₁ Bd hml0 hP hK
  obtain ⟨rfl, hZ, hh⟩ := hP
  have hx := Bd.exec
  have hby := Bd.bytes
  have hml : c.maxLocals = 6 := hml0
  have hown : s.vm.findClass "com/example/spurion/spurion/semantics/JoinsNamedPinLaw" = some m.cls := findClass_of_methodNamed Bd.named
  have hnm := (name_of_methodNamed Bd.named Bd.method).1
  have X0 : Stand p l e ({ frames := 1, cells := 0, slots := 0, locals := 13 } : Room) s m #[(.ref w), (.int (Int32.ofNat i)), (.int (Int32.ofNat j))] below meth c s₁ [] 0 0 := Stand.of_body Bd
  have e0 : s₁.heap = h0 := by rw [← hh, Bd.state]; rfl
  have N0 := Fr.nil n0
  have pre0 : ∀ t, Steps p.tables e below (s₁.setTop (mkF m 0 #[.val (.ref w), .val (.int (Int32.ofNat i)), .val (.int (Int32.ofNat j)), .unset, .unset, .unset] [])) t → Steps p.tables e below (s₁.setTop (entryFrame m #[(.ref w), (.int (Int32.ofNat i)), (.int (Int32.ofNat j))] 6)) t := fun t k => castTop (ef_5 m w ((Int32.ofNat i)) ((Int32.ofNat j))) k
  have st11 := own_getT X0 hx hZ e0 A hl hi rfl (g := (mkF m 2 #[.val (.ref w), .val (.int (Int32.ofNat i)), .val (.int (Int32.ofNat j)), .unset, .unset, .unset] [(.int (Int32.ofNat i)), (.ref w)])) rfl rfl (hb hby d5_2)
  have st12 := own_getT X0 hx hZ e0 A hl hj rfl (g := (mkF m 6 #[.val (.ref w), .val (.int (Int32.ofNat i)), .val (.int (Int32.ofNat j)), .val (.int (Int32.ofNat (t.getD i 0))), .unset, .unset] [(.int (Int32.ofNat j)), (.ref w)])) rfl rfl (hb hby d5_6)
  obtain ⟨_, _, ⟨T13, L13, k13, n13⟩, -, X13, ⟨Lc13, hQ13, l13, y13, z13⟩, st13⟩ := Jvm.LawKit.callS X0 hx (y := (⟨"java/lang/Math", "min", "(II)I"⟩ : MethodName)) hown (mvT hZ (hw _ (List.mem_of_getElem? (i := 26) rfl))) (mvT hZ (hw _ (List.mem_of_getElem? (i := 27) rfl))) (mvT hZ (hw _ (List.mem_of_getElem? (i := 28) rfl))) (mvT hZ (hw _ (List.mem_of_getElem? (i := 29) rfl))) (by decide) (backOf (W := 0) (rm6 l Z a0 hw [] (Int32.ofNat (t.getD i 0)) (Int32.ofNat (t.getD j 0)) h0 n0) hZ (hw _ (List.mem_of_getElem? (i := 29) rfl)) (hw _ (List.mem_of_getElem? (i := 28) rfl)) (by decide) (by decide)) (g := (mkF m 12 #[.val (.ref w), .val (.int (Int32.ofNat i)), .val (.int (Int32.ofNat j)), .val (.int (Int32.ofNat (t.getD i 0))), .val (.int (Int32.ofNat (t.getD j 0))), .unset] [(.int (Int32.ofNat (t.getD j 0))), (.int (Int32.ofNat (t.getD i 0)))])) rfl (by rw [hml]; rfl) (argsL := [(.int (Int32.ofNat (t.getD i 0))), (.int (Int32.ofNat (t.getD j 0)))]) (rest := []) (lenOf pd_II_I rfl) rfl (by show 2 * 0 + _ ≤ _; exact Nat.le_of_eq rfl) (hb hby d5_12) (fun _ _ => ⟨rfl, e0, Nat.le_of_ble_eq_true rfl, Nat.le_of_ble_eq_true rfl⟩)
  dsimp only [Pt.U, Pt.locs, Pt.cells, Pt.slots] at X13 l13 y13 z13 st13 hQ13
  subst l13 y13 z13
  obtain ⟨rfl, N13q, e13⟩ := hQ13
  have N13 := Fr.app N0 N13q
  have hln : ∀ (u : List Nat) (q y : Nat), u.length = 4 → (u.set q y).length = 4 := fun u q y hu => by rw [List.length_set]; exact hu
  have H0 : (t).length = 4 := hl
  obtain ⟨T0j, h0j, L0j, X0j, e0j, N0j, A0j, K0j, st0j⟩ := jn0 X13 hx hZ hw hby hown e13 w (.val (.int (Int32.ofNat i))) (.val (.int (Int32.ofNat j))) (t.getD i 0) (t.getD j 0) (min (t.getD i 0) (t.getD j 0)) (t) n0 H0 (ht 0 (by decide)) (ht i hi) (ht j hj) A gw N13
  have H1 : (t.set 0 (own_f (t.getD i 0) (t.getD j 0) (min (t.getD i 0) (t.getD j 0)) (t.getD 0 0))).length = 4 := hln _ _ _ H0
  obtain ⟨T1j, h1j, L1j, X1j, e1j, N1j, A1j, K1j, st1j⟩ := jn1 X0j hx hZ hw hby hown e0j w (.val (.int (Int32.ofNat i))) (.val (.int (Int32.ofNat j))) (t.getD i 0) (t.getD j 0) (min (t.getD i 0) (t.getD j 0)) (t.set 0 (own_f (t.getD i 0) (t.getD j 0) (min (t.getD i 0) (t.getD j 0)) (t.getD 0 0))) n0 H1 (by rw [own_set_at H0 0 1 _ (by decide) (by decide)]; exact ht 1 (by decide)) (ht i hi) (ht j hj) A0j gw N0j
  rw [own_set_at H0 0 1 _ (by decide) (by decide)] at A1j
  have H2 : ((t.set 0 (own_f (t.getD i 0) (t.getD j 0) (min (t.getD i 0) (t.getD j 0)) (t.getD 0 0))).set 1 (own_f (t.getD i 0) (t.getD j 0) (min (t.getD i 0) (t.getD j 0)) (t.getD 1 0))).length = 4 := hln _ _ _ H1
  obtain ⟨T2j, h2j, L2j, X2j, e2j, N2j, A2j, K2j, st2j⟩ := jn2 X1j hx hZ hw hby hown e1j w (.val (.int (Int32.ofNat i))) (.val (.int (Int32.ofNat j))) (t.getD i 0) (t.getD j 0) (min (t.getD i 0) (t.getD j 0)) ((t.set 0 (own_f (t.getD i 0) (t.getD j 0) (min (t.getD i 0) (t.getD j 0)) (t.getD 0 0))).set 1 (own_f (t.getD i 0) (t.getD j 0) (min (t.getD i 0) (t.getD j 0)) (t.getD 1 0))) n0 H2 (by rw [own_set_at H1 1 2 _ (by decide) (by decide), own_set_at H0 0 2 _ (by decide) (by decide)]; exact ht 2 (by decide)) (ht i hi) (ht j hj) A1j gw N1j
  rw [own_set_at H1 1 2 _ (by decide) (by decide), own_set_at H0 0 2 _ (by decide) (by decide)] at A2j
  have H3 : (((t.set 0 (own_f (t.getD i 0) (t.getD j 0) (min (t.getD i 0) (t.getD j 0)) (t.getD 0 0))).set 1 (own_f (t.getD i 0) (t.getD j 0) (min (t.getD i 0) (t.getD j 0)) (t.getD 1 0))).set 2 (own_f (t.getD i 0) (t.getD j 0) (min (t.getD i 0) (t.getD j 0)) (t.getD 2 0))).length = 4 := hln _ _ _ H2
  obtain ⟨T3j, h3j, L3j, X3j, e3j, N3j, A3j, K3j, st3j⟩ := jn3 X2j hx hZ hw hby hown e2j w (.val (.int (Int32.ofNat i))) (.val (.int (Int32.ofNat j))) (t.getD i 0) (t.getD j 0) (min (t.getD i 0) (t.getD j 0)) (((t.set 0 (own_f (t.getD i 0) (t.getD j 0) (min (t.getD i 0) (t.getD j 0)) (t.getD 0 0))).set 1 (own_f (t.getD i 0) (t.getD j 0) (min (t.getD i 0) (t.getD j 0)) (t.getD 1 0))).set 2 (own_f (t.getD i 0) (t.getD j 0) (min (t.getD i 0) (t.getD j 0)) (t.getD 2 0))) n0 H3 (by rw [own_set_at H2 2 3 _ (by decide) (by decide), own_set_at H1 1 3 _ (by decide) (by decide), own_set_at H0 0 3 _ (by decide) (by decide)]; exact ht 3 (by decide)) (ht i hi) (ht j hj) A2j gw N2j
  rw [own_set_at H2 2 3 _ (by decide) (by decide), own_set_at H1 1 3 _ (by decide) (by decide), own_set_at H0 0 3 _ (by decide) (by decide)] at A3j
  rw [own_join_eq hl] at A3j
  obtain ⟨fs, hr, hrun, hended, hW, hsame⟩ := X3j.leave (v := none) (fun _ => rfl)
  refine ⟨_, _, pre0 _ ?_, hrun, hended, _, _, rfl, ?_, ⟨_, rfl⟩, hW, hsame.mono (by decide) (by decide)⟩
  · show Steps p.tables e below (s₁.setTop (mkF m 0 #[.val (.ref w), .val (.int (Int32.ofNat i)), .val (.int (Int32.ofNat j)), .unset, .unset, .unset] [])) _
    refine XS.aloadN X0.here hx rfl (hb hby d5_0) rfl rfl ?_
    show Steps p.tables e below (s₁.setTop (mkF m 1 #[.val (.ref w), .val (.int (Int32.ofNat i)), .val (.int (Int32.ofNat j)), .unset, .unset, .unset] [(.ref w)])) _
    refine XS.iloadN X0.here hx rfl (hb hby d5_1) rfl ?_
    show Steps p.tables e below (s₁.setTop (mkF m 2 #[.val (.ref w), .val (.int (Int32.ofNat i)), .val (.int (Int32.ofNat j)), .unset, .unset, .unset] [(.int (Int32.ofNat i)), (.ref w)])) _
    refine st11 _ ?_
    show Steps p.tables e below (s₁.setTop (mkF m 3 #[.val (.ref w), .val (.int (Int32.ofNat i)), .val (.int (Int32.ofNat j)), .unset, .unset, .unset] [(.int (Int32.ofNat (t.getD i 0)))])) _
    refine XS.istoreN X0.here hx rfl (hb hby d5_3) rfl (l' := #[.val (.ref w), .val (.int (Int32.ofNat i)), .val (.int (Int32.ofNat j)), .val (.int (Int32.ofNat (t.getD i 0))), .unset, .unset]) rfl ?_
    show Steps p.tables e below (s₁.setTop (mkF m 4 #[.val (.ref w), .val (.int (Int32.ofNat i)), .val (.int (Int32.ofNat j)), .val (.int (Int32.ofNat (t.getD i 0))), .unset, .unset] [])) _
    refine XS.aloadN X0.here hx rfl (hb hby d5_4) rfl rfl ?_
    show Steps p.tables e below (s₁.setTop (mkF m 5 #[.val (.ref w), .val (.int (Int32.ofNat i)), .val (.int (Int32.ofNat j)), .val (.int (Int32.ofNat (t.getD i 0))), .unset, .unset] [(.ref w)])) _
    refine XS.iloadN X0.here hx rfl (hb hby d5_5) rfl ?_
    show Steps p.tables e below (s₁.setTop (mkF m 6 #[.val (.ref w), .val (.int (Int32.ofNat i)), .val (.int (Int32.ofNat j)), .val (.int (Int32.ofNat (t.getD i 0))), .unset, .unset] [(.int (Int32.ofNat j)), (.ref w)])) _
    refine st12 _ ?_
    show Steps p.tables e below (s₁.setTop (mkF m 7 #[.val (.ref w), .val (.int (Int32.ofNat i)), .val (.int (Int32.ofNat j)), .val (.int (Int32.ofNat (t.getD i 0))), .unset, .unset] [(.int (Int32.ofNat (t.getD j 0)))])) _
    refine XS.istore X0.here hx rfl (hb hby d5_7) rfl (l' := #[.val (.ref w), .val (.int (Int32.ofNat i)), .val (.int (Int32.ofNat j)), .val (.int (Int32.ofNat (t.getD i 0))), .val (.int (Int32.ofNat (t.getD j 0))), .unset]) rfl ?_
    show Steps p.tables e below (s₁.setTop (mkF m 9 #[.val (.ref w), .val (.int (Int32.ofNat i)), .val (.int (Int32.ofNat j)), .val (.int (Int32.ofNat (t.getD i 0))), .val (.int (Int32.ofNat (t.getD j 0))), .unset] [])) _
    refine XS.iloadN X0.here hx rfl (hb hby d5_9) rfl ?_
    show Steps p.tables e below (s₁.setTop (mkF m 10 #[.val (.ref w), .val (.int (Int32.ofNat i)), .val (.int (Int32.ofNat j)), .val (.int (Int32.ofNat (t.getD i 0))), .val (.int (Int32.ofNat (t.getD j 0))), .unset] [(.int (Int32.ofNat (t.getD i 0)))])) _
    refine XS.iload X0.here hx rfl (hb hby d5_10) rfl ?_
    show Steps p.tables e below (s₁.setTop (mkF m 12 #[.val (.ref w), .val (.int (Int32.ofNat i)), .val (.int (Int32.ofNat j)), .val (.int (Int32.ofNat (t.getD i 0))), .val (.int (Int32.ofNat (t.getD j 0))), .unset] [(.int (Int32.ofNat (t.getD j 0))), (.int (Int32.ofNat (t.getD i 0)))])) _
    refine st13 _ ?_
    show Steps p.tables e below (T13.setTop (mkF m 15 #[.val (.ref w), .val (.int (Int32.ofNat i)), .val (.int (Int32.ofNat j)), .val (.int (Int32.ofNat (t.getD i 0))), .val (.int (Int32.ofNat (t.getD j 0))), .unset] [(.int (v6 (Int32.ofNat (t.getD i 0)) (Int32.ofNat (t.getD j 0))))])) _
    rw [v6_nat (ht i hi) (ht j hj)]
    show Steps p.tables e below (T13.setTop (mkF m 15 #[.val (.ref w), .val (.int (Int32.ofNat i)), .val (.int (Int32.ofNat j)), .val (.int (Int32.ofNat (t.getD i 0))), .val (.int (Int32.ofNat (t.getD j 0))), .unset] [(.int (Int32.ofNat (min (t.getD i 0) (t.getD j 0))))])) _
    refine XS.istore X13.here hx rfl (hb hby d5_15) rfl (l' := #[.val (.ref w), .val (.int (Int32.ofNat i)), .val (.int (Int32.ofNat j)), .val (.int (Int32.ofNat (t.getD i 0))), .val (.int (Int32.ofNat (t.getD j 0))), .val (.int (Int32.ofNat (min (t.getD i 0) (t.getD j 0))))]) rfl ?_
    show Steps p.tables e below (T13.setTop (mkF m 17 #[.val (.ref w), .val (.int (Int32.ofNat i)), .val (.int (Int32.ofNat j)), .val (.int (Int32.ofNat (t.getD i 0))), .val (.int (Int32.ofNat (t.getD j 0))), .val (.int (Int32.ofNat (min (t.getD i 0) (t.getD j 0))))] [])) _
    refine st0j _ ?_
    show Steps p.tables e below (T0j.setTop (mkF m 37 #[.val (.ref w), .val (.int (Int32.ofNat i)), .val (.int (Int32.ofNat j)), .val (.int (Int32.ofNat (t.getD i 0))), .val (.int (Int32.ofNat (t.getD j 0))), .val (.int (Int32.ofNat (min (t.getD i 0) (t.getD j 0))))] [])) _
    refine st1j _ ?_
    show Steps p.tables e below (T1j.setTop (mkF m 57 #[.val (.ref w), .val (.int (Int32.ofNat i)), .val (.int (Int32.ofNat j)), .val (.int (Int32.ofNat (t.getD i 0))), .val (.int (Int32.ofNat (t.getD j 0))), .val (.int (Int32.ofNat (min (t.getD i 0) (t.getD j 0))))] [])) _
    refine st2j _ ?_
    show Steps p.tables e below (T2j.setTop (mkF m 77 #[.val (.ref w), .val (.int (Int32.ofNat i)), .val (.int (Int32.ofNat j)), .val (.int (Int32.ofNat (t.getD i 0))), .val (.int (Int32.ofNat (t.getD j 0))), .val (.int (Int32.ofNat (min (t.getD i 0) (t.getD j 0))))] [])) _
    refine st3j _ ?_
    show Steps p.tables e below (T3j.setTop (mkF m 97 #[.val (.ref w), .val (.int (Int32.ofNat i)), .val (.int (Int32.ofNat j)), .val (.int (Int32.ofNat (t.getD i 0))), .val (.int (Int32.ofNat (t.getD j 0))), .val (.int (Int32.ofNat (min (t.getD i 0) (t.getD j 0))))] [])) _
    exact X3j.returnOut hx Bd.returns (hb hby d5_97) hr
  · show Q5 Z w t i j h0 n0 _ T3j.heap _
    rw [e3j]
    exact ⟨rfl, N3j, own_k1 (own_k1 (own_k1 K0j K1j) K2j) K3j, A3j⟩
theorem d1_0 : decode prog_256_method_1_code 0 = .ok (.aload_n 0, 1) := by decide +kernel
theorem d1_1 : decode prog_256_method_1_code 1 = .ok (.invokespecial 1, 3) := by decide +kernel
theorem d1_4 : decode prog_256_method_1_code 4 = .ok (.aload_n 0, 1) := by decide +kernel
theorem d1_5 : decode prog_256_method_1_code 5 = .ok (.iload_n 1, 1) := by decide +kernel
theorem d1_6 : decode prog_256_method_1_code 6 = .ok (.newarray .int, 2) := by decide +kernel
theorem d1_8 : decode prog_256_method_1_code 8 = .ok (.putfield 7, 3) := by decide +kernel
theorem d1_11 : decode prog_256_method_1_code 11 = .ok (.iconst 0, 1) := by decide +kernel
theorem d1_12 : decode prog_256_method_1_code 12 = .ok (.istore_n 2, 1) := by decide +kernel
theorem d1_13 : decode prog_256_method_1_code 13 = .ok (.iload_n 2, 1) := by decide +kernel
theorem d1_14 : decode prog_256_method_1_code 14 = .ok (.iload_n 1, 1) := by decide +kernel
theorem d1_15 : decode prog_256_method_1_code 15 = .ok (.if_icmp .ge 16, 3) := by decide +kernel
theorem d1_18 : decode prog_256_method_1_code 18 = .ok (.aload_n 0, 1) := by decide +kernel
theorem d1_19 : decode prog_256_method_1_code 19 = .ok (.getfield 7, 3) := by decide +kernel
theorem d1_22 : decode prog_256_method_1_code 22 = .ok (.iload_n 2, 1) := by decide +kernel
theorem d1_23 : decode prog_256_method_1_code 23 = .ok (.iload_n 2, 1) := by decide +kernel
theorem d1_24 : decode prog_256_method_1_code 24 = .ok (.iastore, 1) := by decide +kernel
theorem d1_25 : decode prog_256_method_1_code 25 = .ok (.iinc 2 1, 3) := by decide +kernel
theorem d1_28 : decode prog_256_method_1_code 28 = .ok (.goto (-15), 3) := by decide +kernel
theorem d1_31 : decode prog_256_method_1_code 31 = .ok (.return_, 1) := by decide +kernel
theorem ef_1 (m : MethodId) (x0 : Addr) (x1 : Int32) : entryFrame m #[(.ref x0), (.int x1)] 3 = mkF m 0 #[.val (.ref x0), .val (.int x1), .unset] [] := by first | (simp [entryFrame, mkF, argsToLocals, Value.category]; done) | rfl
def Q1 (Z : State) (o : Addr) (h0 : Heap) (n0 : Nat) (v : Option Value) (h : Heap) (L : List Loc) : Prop := v = none ∧ Fr n0 L ∧ Keep h0 h [o] ∧ ∃ w : Addr, h0.size ≤ w ∧ Fld Z h o "com/example/spurion/spurion/semantics/Joins" "towards" "[I" (.ref w) ∧ own_T Z h w [0, 1, 2, 3]
set_option maxRecDepth 65536 in
set_option maxHeartbeats 40000000 in
theorem rm1 (l : Launch) (Z : State) (a0 : Array Value) (hw : ∀ d ∈ tables_1, d.before a0 Z = true) (ws : List Jvm.Cond) (o : Addr) (u : Value) (h0 : Heap) (n0 : Nat) (Z0 : n0 ≤ h0.size) (E : Exa Z h0 o "com/example/spurion/spurion/semantics/Joins") (F : Fld Z h0 o "com/example/spurion/spurion/semantics/Joins" "towards" "[I" u) (go : n0 ≤ o) :
    MetFree l (⟨"com/example/spurion/spurion/semantics/Joins", "<init>", "(I)V"⟩ : MethodName) (head1 (Jvm.Cond.code (⟨"com/example/spurion/spurion/semantics/Joins", "<init>", "(I)V"⟩ : MethodName) prog_256_method_1_code 3 none :: ws) ({ frames := 1, cells := 1, slots := 4, locals := 12 } : Room)) (fun a U => a = #[(.ref o), (.int (4 : Int32))] ∧ Z.Warmed39 U.vm ∧ U.heap = h0) (fun _ _ _ _ _ => True) (fun _ U oc U' => ∃ v L, oc = .returned v ∧ Q1 Z o h0 n0 v U'.heap L ∧ FrameEnd U oc U' L ({ frames := 1, cells := 1, slots := 4, locals := 12 } : Room).cells ({ frames := 1, cells := 1, slots := 4, locals := 12 } : Room).slots) := by
  refine MetFree.of_bodySF (plainFor_of_name pn_J) hisR ?_
  intro p e s m args below meth c s₁ Bd hml0 hP hK
  obtain ⟨rfl, hZ, hh⟩ := hP
  have hx := Bd.exec
  have hby := Bd.bytes
  have hml : c.maxLocals = 3 := hml0
  have hown : s.vm.findClass "com/example/spurion/spurion/semantics/Joins" = some m.cls := findClass_of_methodNamed Bd.named
  have hnm := (name_of_methodNamed Bd.named Bd.method).1
  have X0 : Stand p l e ({ frames := 1, cells := 1, slots := 4, locals := 12 } : Room) s m #[(.ref o), (.int (4 : Int32))] below meth c s₁ [] 0 0 := Stand.of_body Bd
  have e0 : s₁.heap = h0 := by rw [← hh, Bd.state]; rfl
  have N0 := Fr.nil n0
  have pre0 : ∀ t, Steps p.tables e below (s₁.setTop (mkF m 0 #[.val (.ref o), .val (.int (4 : Int32)), .unset] [])) t → Steps p.tables e below (s₁.setTop (entryFrame m #[(.ref o), (.int (4 : Int32))] 3)) t := fun t k => castTop (ef_1 m o ((4 : Int32))) k
  obtain ⟨T11, X11, e11, st11⟩ := initO X0 hx hZ hown (hw _ (List.mem_of_getElem? (i := 6) rfl)) (hw _ (List.mem_of_getElem? (i := 7) rfl)) (hw _ (List.mem_of_getElem? (i := 8) rfl)) e0 (g := (mkF m 1 #[.val (.ref o), .val (.int (4 : Int32)), .unset] [(.ref o)])) rfl (by rw [hml]; rfl) rfl (hb hby d1_1) (by decide) (W := 0) (by show 2 * 0 + _ ≤ _; exact Nat.le_of_eq rfl) (by decide)
  obtain ⟨T12, h12, X12, e12, E12, A12, st12⟩ := own_newT X11 hx hZ e11 (hw _ (List.mem_of_getElem? (i := 9) rfl)) (g := (mkF m 6 #[.val (.ref o), .val (.int (4 : Int32)), .unset] [(.int (4 : Int32)), (.ref o)])) rfl (hb hby d1_6) rfl (by decide) (by decide)
  obtain ⟨a12, g12⟩ : ∃ z, z = h0.size := ⟨_, rfl⟩
  rw [← g12] at A12 st12
  have gw : n0 ≤ a12 := by rw [g12]; exact Z0
  have ne : o ≠ a12 := by rw [g12]; exact Nat.ne_of_lt E.lt
  obtain ⟨T13, h13, X13, e13, W13, st13⟩ := putF X12 hx hZ hown (host := "") (Or.inl (hw _ (List.mem_of_getElem? (i := 10) rfl))) Via.refl e12 (F.ext E12) (E.ext E12) (Or.inr ⟨(hw _ (List.mem_of_getElem? (i := 11) rfl)), rfl, hnm⟩) (hw _ (List.mem_of_getElem? (i := 1) rfl)) (ty := (.array .int)) (by decide) rfl rfl (g := (mkF m 8 #[.val (.ref o), .val (.int (4 : Int32)), .unset] [(.ref a12), (.ref o)])) rfl rfl (hb hby d1_8)
  have N13 := Fr.snoc X13 N0 go
  have Fw := (F.ext E12).same W13
  have K0 : Keep h0 h13 [o] := ((Keep.refl h0 [o]).ext E12).wr W13 (Or.inl (List.mem_singleton.mpr rfl))
  have A0 := A12.keep (Keep.of_wr W13) (own_nin (fun z => ne z.symm))
  obtain ⟨T14, X14, e14, st14⟩ := getF X13 hx hZ hown (host := "") (Or.inl (hw _ (List.mem_of_getElem? (i := 10) rfl))) Via.refl e13 Fw (g := (mkF m 19 #[.val (.ref o), .val (.int (4 : Int32)), .val (.int (0 : Int32))] [(.ref o)])) rfl rfl (hb hby d1_19)
  obtain ⟨T15, h15, L15, X15, e15, N15, A15, K15, st15⟩ := own_putT X14 hx hZ e14 A0 rfl N13 gw (i := 0) (by decide) (y := 0) rfl rfl (g := (mkF m 24 #[.val (.ref o), .val (.int (4 : Int32)), .val (.int (0 : Int32))] [(.int (0 : Int32)), (.int (0 : Int32)), (.ref a12)])) rfl rfl (hb hby d1_24)
  have F15 := Fw.keep K15 (own_nin ne)
  have KK15 : Keep h0 h15 [o] := K0.trans K15 fun x hx => Or.inr (by rw [List.mem_singleton.mp hx, g12]; exact Nat.le_refl _)
  obtain ⟨T16, X16, e16, st16⟩ := getF X15 hx hZ hown (host := "") (Or.inl (hw _ (List.mem_of_getElem? (i := 10) rfl))) Via.refl e15 F15 (g := (mkF m 19 #[.val (.ref o), .val (.int (4 : Int32)), .val (.int (1 : Int32))] [(.ref o)])) rfl rfl (hb hby d1_19)
  obtain ⟨T17, h17, L17, X17, e17, N17, A17, K17, st17⟩ := own_putT X16 hx hZ e16 A15 rfl N15 gw (i := 1) (by decide) (y := 1) rfl rfl (g := (mkF m 24 #[.val (.ref o), .val (.int (4 : Int32)), .val (.int (1 : Int32))] [(.int (1 : Int32)), (.int (1 : Int32)), (.ref a12)])) rfl rfl (hb hby d1_24)
  have F17 := F15.keep K17 (own_nin ne)
  have KK17 : Keep h0 h17 [o] := KK15.trans K17 fun x hx => Or.inr (by rw [List.mem_singleton.mp hx, g12]; exact Nat.le_refl _)
  obtain ⟨T18, X18, e18, st18⟩ := getF X17 hx hZ hown (host := "") (Or.inl (hw _ (List.mem_of_getElem? (i := 10) rfl))) Via.refl e17 F17 (g := (mkF m 19 #[.val (.ref o), .val (.int (4 : Int32)), .val (.int (2 : Int32))] [(.ref o)])) rfl rfl (hb hby d1_19)
  obtain ⟨T19, h19, L19, X19, e19, N19, A19, K19, st19⟩ := own_putT X18 hx hZ e18 A17 rfl N17 gw (i := 2) (by decide) (y := 2) rfl rfl (g := (mkF m 24 #[.val (.ref o), .val (.int (4 : Int32)), .val (.int (2 : Int32))] [(.int (2 : Int32)), (.int (2 : Int32)), (.ref a12)])) rfl rfl (hb hby d1_24)
  have F19 := F17.keep K19 (own_nin ne)
  have KK19 : Keep h0 h19 [o] := KK17.trans K19 fun x hx => Or.inr (by rw [List.mem_singleton.mp hx, g12]; exact Nat.le_refl _)
  obtain ⟨T20, X20, e20, st20⟩ := getF X19 hx hZ hown (host := "") (Or.inl (hw _ (List.mem_of_getElem? (i := 10) rfl))) Via.refl e19 F19 (g := (mkF m 19 #[.val (.ref o), .val (.int (4 : Int32)), .val (.int (3 : Int32))] [(.ref o)])) rfl rfl (hb hby d1_19)
  obtain ⟨T21, h21, L21, X21, e21, N21, A21, K21, st21⟩ := own_putT X20 hx hZ e20 A19 rfl N19 gw (i := 3) (by decide) (y := 3) rfl rfl (g := (mkF m 24 #[.val (.ref o), .val (.int (4 : Int32)), .val (.int (3 : Int32))] [(.int (3 : Int32)), (.int (3 : Int32)), (.ref a12)])) rfl rfl (hb hby d1_24)
  have F21 := F19.keep K21 (own_nin ne)
  have KK21 : Keep h0 h21 [o] := KK19.trans K21 fun x hx => Or.inr (by rw [List.mem_singleton.mp hx, g12]; exact Nat.le_refl _)
  obtain ⟨fs, hr, hrun, hended, hW, hsame⟩ := X21.leave (v := none) (fun _ => rfl)
  refine ⟨_, _, pre0 _ ?_, hrun, hended, _, _, rfl, ?_, ⟨_, rfl⟩, hW, hsame.mono (by decide) (by decide)⟩
  · show Steps p.tables e below (s₁.setTop (mkF m 0 #[.val (.ref o), .val (.int (4 : Int32)), .unset] [])) _
    refine XS.aloadN X0.here hx rfl (hb hby d1_0) rfl rfl ?_
    show Steps p.tables e below (s₁.setTop (mkF m 1 #[.val (.ref o), .val (.int (4 : Int32)), .unset] [(.ref o)])) _
    refine st11 _ ?_
    show Steps p.tables e below (T11.setTop (mkF m 4 #[.val (.ref o), .val (.int (4 : Int32)), .unset] [])) _
    refine XS.aloadN X11.here hx rfl (hb hby d1_4) rfl rfl ?_
    show Steps p.tables e below (T11.setTop (mkF m 5 #[.val (.ref o), .val (.int (4 : Int32)), .unset] [(.ref o)])) _
    refine XS.iloadN X11.here hx rfl (hb hby d1_5) rfl ?_
    show Steps p.tables e below (T11.setTop (mkF m 6 #[.val (.ref o), .val (.int (4 : Int32)), .unset] [(.int (4 : Int32)), (.ref o)])) _
    refine st12 _ ?_
    show Steps p.tables e below (T12.setTop (mkF m 8 #[.val (.ref o), .val (.int (4 : Int32)), .unset] [(.ref a12), (.ref o)])) _
    refine st13 _ ?_
    show Steps p.tables e below (T13.setTop (mkF m 11 #[.val (.ref o), .val (.int (4 : Int32)), .unset] [])) _
    refine XS.iconst X13.here hx rfl (hb hby d1_11) ?_
    show Steps p.tables e below (T13.setTop (mkF m 12 #[.val (.ref o), .val (.int (4 : Int32)), .unset] [(.int (0 : Int32))])) _
    refine XS.istoreN X13.here hx rfl (hb hby d1_12) rfl (l' := #[.val (.ref o), .val (.int (4 : Int32)), .val (.int (0 : Int32))]) rfl ?_
    show Steps p.tables e below (T13.setTop (mkF m 13 #[.val (.ref o), .val (.int (4 : Int32)), .val (.int (0 : Int32))] [])) _
    refine XS.iloadN X13.here hx rfl (hb hby d1_13) rfl ?_
    show Steps p.tables e below (T13.setTop (mkF m 14 #[.val (.ref o), .val (.int (4 : Int32)), .val (.int (0 : Int32))] [(.int (0 : Int32))])) _
    refine XS.iloadN X13.here hx rfl (hb hby d1_14) rfl ?_
    show Steps p.tables e below (T13.setTop (mkF m 15 #[.val (.ref o), .val (.int (4 : Int32)), .val (.int (0 : Int32))] [(.int (4 : Int32)), (.int (0 : Int32))])) _
    refine XS.icmpNo X13.here hx rfl (hb hby d1_15) rfl (tlt (show (0 : Int32) < (4 : Int32) by decide)).2.1 ?_
    show Steps p.tables e below (T13.setTop (mkF m 18 #[.val (.ref o), .val (.int (4 : Int32)), .val (.int (0 : Int32))] [])) _
    refine XS.aloadN X13.here hx rfl (hb hby d1_18) rfl rfl ?_
    show Steps p.tables e below (T13.setTop (mkF m 19 #[.val (.ref o), .val (.int (4 : Int32)), .val (.int (0 : Int32))] [(.ref o)])) _
    refine st14 _ ?_
    show Steps p.tables e below (T14.setTop (mkF m 22 #[.val (.ref o), .val (.int (4 : Int32)), .val (.int (0 : Int32))] [(.ref a12)])) _
    refine XS.iloadN X14.here hx rfl (hb hby d1_22) rfl ?_
    show Steps p.tables e below (T14.setTop (mkF m 23 #[.val (.ref o), .val (.int (4 : Int32)), .val (.int (0 : Int32))] [(.int (0 : Int32)), (.ref a12)])) _
    refine XS.iloadN X14.here hx rfl (hb hby d1_23) rfl ?_
    show Steps p.tables e below (T14.setTop (mkF m 24 #[.val (.ref o), .val (.int (4 : Int32)), .val (.int (0 : Int32))] [(.int (0 : Int32)), (.int (0 : Int32)), (.ref a12)])) _
    refine st15 _ ?_
    show Steps p.tables e below (T15.setTop (mkF m 25 #[.val (.ref o), .val (.int (4 : Int32)), .val (.int (0 : Int32))] [])) _
    refine XS.iinc X15.here hx rfl (hb hby d1_25) rfl (l' := #[.val (.ref o), .val (.int (4 : Int32)), .val (.int (1 : Int32))]) rfl ?_
    show Steps p.tables e below (T15.setTop (mkF m 28 #[.val (.ref o), .val (.int (4 : Int32)), .val (.int (1 : Int32))] [])) _
    refine XS.goto X15.here hx rfl (pc0 := 28) (pc' := 13) rfl (hb hby d1_28) (by decide) (by decide) ?_
    show Steps p.tables e below (T15.setTop (mkF m 13 #[.val (.ref o), .val (.int (4 : Int32)), .val (.int (1 : Int32))] [])) _
    refine XS.iloadN X15.here hx rfl (hb hby d1_13) rfl ?_
    show Steps p.tables e below (T15.setTop (mkF m 14 #[.val (.ref o), .val (.int (4 : Int32)), .val (.int (1 : Int32))] [(.int (1 : Int32))])) _
    refine XS.iloadN X15.here hx rfl (hb hby d1_14) rfl ?_
    show Steps p.tables e below (T15.setTop (mkF m 15 #[.val (.ref o), .val (.int (4 : Int32)), .val (.int (1 : Int32))] [(.int (4 : Int32)), (.int (1 : Int32))])) _
    refine XS.icmpNo X15.here hx rfl (hb hby d1_15) rfl (tlt (show (1 : Int32) < (4 : Int32) by decide)).2.1 ?_
    show Steps p.tables e below (T15.setTop (mkF m 18 #[.val (.ref o), .val (.int (4 : Int32)), .val (.int (1 : Int32))] [])) _
    refine XS.aloadN X15.here hx rfl (hb hby d1_18) rfl rfl ?_
    show Steps p.tables e below (T15.setTop (mkF m 19 #[.val (.ref o), .val (.int (4 : Int32)), .val (.int (1 : Int32))] [(.ref o)])) _
    refine st16 _ ?_
    show Steps p.tables e below (T16.setTop (mkF m 22 #[.val (.ref o), .val (.int (4 : Int32)), .val (.int (1 : Int32))] [(.ref a12)])) _
    refine XS.iloadN X16.here hx rfl (hb hby d1_22) rfl ?_
    show Steps p.tables e below (T16.setTop (mkF m 23 #[.val (.ref o), .val (.int (4 : Int32)), .val (.int (1 : Int32))] [(.int (1 : Int32)), (.ref a12)])) _
    refine XS.iloadN X16.here hx rfl (hb hby d1_23) rfl ?_
    show Steps p.tables e below (T16.setTop (mkF m 24 #[.val (.ref o), .val (.int (4 : Int32)), .val (.int (1 : Int32))] [(.int (1 : Int32)), (.int (1 : Int32)), (.ref a12)])) _
    refine st17 _ ?_
    show Steps p.tables e below (T17.setTop (mkF m 25 #[.val (.ref o), .val (.int (4 : Int32)), .val (.int (1 : Int32))] [])) _
    refine XS.iinc X17.here hx rfl (hb hby d1_25) rfl (l' := #[.val (.ref o), .val (.int (4 : Int32)), .val (.int (2 : Int32))]) rfl ?_
    show Steps p.tables e below (T17.setTop (mkF m 28 #[.val (.ref o), .val (.int (4 : Int32)), .val (.int (2 : Int32))] [])) _
    refine XS.goto X17.here hx rfl (pc0 := 28) (pc' := 13) rfl (hb hby d1_28) (by decide) (by decide) ?_
    show Steps p.tables e below (T17.setTop (mkF m 13 #[.val (.ref o), .val (.int (4 : Int32)), .val (.int (2 : Int32))] [])) _
    refine XS.iloadN X17.here hx rfl (hb hby d1_13) rfl ?_
    show Steps p.tables e below (T17.setTop (mkF m 14 #[.val (.ref o), .val (.int (4 : Int32)), .val (.int (2 : Int32))] [(.int (2 : Int32))])) _
    refine XS.iloadN X17.here hx rfl (hb hby d1_14) rfl ?_
    show Steps p.tables e below (T17.setTop (mkF m 15 #[.val (.ref o), .val (.int (4 : Int32)), .val (.int (2 : Int32))] [(.int (4 : Int32)), (.int (2 : Int32))])) _
    refine XS.icmpNo X17.here hx rfl (hb hby d1_15) rfl (tlt (show (2 : Int32) < (4 : Int32) by decide)).2.1 ?_
    show Steps p.tables e below (T17.setTop (mkF m 18 #[.val (.ref o), .val (.int (4 : Int32)), .val (.int (2 : Int32))] [])) _
    refine XS.aloadN X17.here hx rfl (hb hby d1_18) rfl rfl ?_
    show Steps p.tables e below (T17.setTop (mkF m 19 #[.val (.ref o), .val (.int (4 : Int32)), .val (.int (2 : Int32))] [(.ref o)])) _
    refine st18 _ ?_
    show Steps p.tables e below (T18.setTop (mkF m 22 #[.val (.ref o), .val (.int (4 : Int32)), .val (.int (2 : Int32))] [(.ref a12)])) _
    refine XS.iloadN X18.here hx rfl (hb hby d1_22) rfl ?_
    show Steps p.tables e below (T18.setTop (mkF m 23 #[.val (.ref o), .val (.int (4 : Int32)), .val (.int (2 : Int32))] [(.int (2 : Int32)), (.ref a12)])) _
    refine XS.iloadN X18.here hx rfl (hb hby d1_23) rfl ?_
    show Steps p.tables e below (T18.setTop (mkF m 24 #[.val (.ref o), .val (.int (4 : Int32)), .val (.int (2 : Int32))] [(.int (2 : Int32)), (.int (2 : Int32)), (.ref a12)])) _
    refine st19 _ ?_
    show Steps p.tables e below (T19.setTop (mkF m 25 #[.val (.ref o), .val (.int (4 : Int32)), .val (.int (2 : Int32))] [])) _
    refine XS.iinc X19.here hx rfl (hb hby d1_25) rfl (l' := #[.val (.ref o), .val (.int (4 : Int32)), .val (.int (3 : Int32))]) rfl ?_
    show Steps p.tables e below (T19.setTop (mkF m 28 #[.val (.ref o), .val (.int (4 : Int32)), .val (.int (3 : Int32))] [])) _
    refine XS.goto X19.here hx rfl (pc0 := 28) (pc' := 13) rfl (hb hby d1_28) (by decide) (by decide) ?_
    show Steps p.tables e below (T19.setTop (mkF m 13 #[.val (.ref o), .val (.int (4 : Int32)), .val (.int (3 : Int32))] [])) _
    refine XS.iloadN X19.here hx rfl (hb hby d1_13) rfl ?_
    show Steps p.tables e below (T19.setTop (mkF m 14 #[.val (.ref o), .val (.int (4 : Int32)), .val (.int (3 : Int32))] [(.int (3 : Int32))])) _
    refine XS.iloadN X19.here hx rfl (hb hby d1_14) rfl ?_
    show Steps p.tables e below (T19.setTop (mkF m 15 #[.val (.ref o), .val (.int (4 : Int32)), .val (.int (3 : Int32))] [(.int (4 : Int32)), (.int (3 : Int32))])) _
    refine XS.icmpNo X19.here hx rfl (hb hby d1_15) rfl (tlt (show (3 : Int32) < (4 : Int32) by decide)).2.1 ?_
    show Steps p.tables e below (T19.setTop (mkF m 18 #[.val (.ref o), .val (.int (4 : Int32)), .val (.int (3 : Int32))] [])) _
    refine XS.aloadN X19.here hx rfl (hb hby d1_18) rfl rfl ?_
    show Steps p.tables e below (T19.setTop (mkF m 19 #[.val (.ref o), .val (.int (4 : Int32)), .val (.int (3 : Int32))] [(.ref o)])) _
    refine st20 _ ?_
    show Steps p.tables e below (T20.setTop (mkF m 22 #[.val (.ref o), .val (.int (4 : Int32)), .val (.int (3 : Int32))] [(.ref a12)])) _
    refine XS.iloadN X20.here hx rfl (hb hby d1_22) rfl ?_
    show Steps p.tables e below (T20.setTop (mkF m 23 #[.val (.ref o), .val (.int (4 : Int32)), .val (.int (3 : Int32))] [(.int (3 : Int32)), (.ref a12)])) _
    refine XS.iloadN X20.here hx rfl (hb hby d1_23) rfl ?_
    show Steps p.tables e below (T20.setTop (mkF m 24 #[.val (.ref o), .val (.int (4 : Int32)), .val (.int (3 : Int32))] [(.int (3 : Int32)), (.int (3 : Int32)), (.ref a12)])) _
    refine st21 _ ?_
    show Steps p.tables e below (T21.setTop (mkF m 25 #[.val (.ref o), .val (.int (4 : Int32)), .val (.int (3 : Int32))] [])) _
    refine XS.iinc X21.here hx rfl (hb hby d1_25) rfl (l' := #[.val (.ref o), .val (.int (4 : Int32)), .val (.int (4 : Int32))]) rfl ?_
    show Steps p.tables e below (T21.setTop (mkF m 28 #[.val (.ref o), .val (.int (4 : Int32)), .val (.int (4 : Int32))] [])) _
    refine XS.goto X21.here hx rfl (pc0 := 28) (pc' := 13) rfl (hb hby d1_28) (by decide) (by decide) ?_
    show Steps p.tables e below (T21.setTop (mkF m 13 #[.val (.ref o), .val (.int (4 : Int32)), .val (.int (4 : Int32))] [])) _
    refine XS.iloadN X21.here hx rfl (hb hby d1_13) rfl ?_
    show Steps p.tables e below (T21.setTop (mkF m 14 #[.val (.ref o), .val (.int (4 : Int32)), .val (.int (4 : Int32))] [(.int (4 : Int32))])) _
    refine XS.iloadN X21.here hx rfl (hb hby d1_14) rfl ?_
    show Steps p.tables e below (T21.setTop (mkF m 15 #[.val (.ref o), .val (.int (4 : Int32)), .val (.int (4 : Int32))] [(.int (4 : Int32)), (.int (4 : Int32))])) _
    refine XS.icmpYes X21.here hx rfl (pc0 := 15) (pc' := 31) rfl (hb hby d1_15) rfl (flt (show ¬ (4 : Int32) < (4 : Int32) by decide)).2.1 (by decide) (by decide) ?_
    show Steps p.tables e below (T21.setTop (mkF m 31 #[.val (.ref o), .val (.int (4 : Int32)), .val (.int (4 : Int32))] [])) _
    exact X21.returnOut hx Bd.returns (hb hby d1_31) hr
  · show Q1 Z o h0 n0 _ T21.heap _
    rw [e21]
    exact ⟨rfl, N21, KK21, a12, Nat.le_of_eq g12.symm, F21, A21⟩
theorem ef_0 (m : MethodId) (x0 : Int32) (x1 : Int32) (x2 : Int32) (x3 : Int32) : entryFrame m #[(.int x0), (.int x1), (.int x2), (.int x3)] maxLocals = mkF m 0 #[.val (.int x0), .val (.int x1), .val (.int x2), .val (.int x3), .unset, .unset, .unset, .unset, .unset, .unset, .unset, .unset, .unset, .unset, .unset, .unset, .unset, .unset] [] := by first | (simp [entryFrame, mkF, argsToLocals, Value.category, maxLocals]; done) | rfl
def Q0 (h0 : Heap) (n0 : Nat) (v : Option Value) (h : Heap) (L : List Loc) : Prop := v = some (.int (1 : Int32)) ∧ Fr n0 L
set_option maxRecDepth 65536 in
set_option maxHeartbeats 40000000 in
theorem rm0 (l : Launch) (Z : State) (a0 : Array Value) (hw : ∀ d ∈ tables_1, d.before a0 Z = true) (ws : List Jvm.Cond) (p1 : Int32) (p2 : Int32) (p3 : Int32) (p4 : Int32) (h0 : Heap) (n0 : Nat) (Z0 : n0 ≤ h0.size) :
    MetFree l x (head1 (Jvm.Cond.code x code maxLocals ret :: ws) room_1) (fun a U => a = #[(.int p1), (.int p2), (.int p3), (.int p4)] ∧ Z.Warmed39 U.vm ∧ U.heap = h0) (fun _ _ _ _ _ => True) (fun _ U o U' => ∃ v L, o = .returned v ∧ Q0 h0 n0 v U'.heap L ∧ FrameEnd U o U' L room_1.cells room_1.slots) := by
  refine MetFree.of_bodySF (plainFor_of_name pn_0) hisR ?_
  intro p e s m args below meth c s₁ Bd hml0 hP hK
  obtain ⟨rfl, hZ, hh⟩ := hP
  have hx := Bd.exec
  have hby := Bd.bytes
  have hlk := Bd.notSynchronized
  have hret : meth.sig.returnType = some .boolean := Bd.returns
  have hml : c.maxLocals = 18 := hml0
  have hown : s.vm.findClass "com/example/spurion/spurion/semantics/JoinsNamedPinLaw" = some m.cls := findClass_of_methodNamed Bd.named
  have X0 : Stand p l e room_1 s m #[(.int p1), (.int p2), (.int p3), (.int p4)] below meth c s₁ [] 0 0 := Stand.of_body Bd
  have e0 : s₁.heap = h0 := by rw [← hh, Bd.state]; rfl
  have N0 := Fr.nil n0
  have pre0 : ∀ t, Steps p.tables e below (s₁.setTop (mkF m 0 #[.val (.int p1), .val (.int p2), .val (.int p3), .val (.int p4), .unset, .unset, .unset, .unset, .unset, .unset, .unset, .unset, .unset, .unset, .unset, .unset, .unset, .unset] [])) t → Steps p.tables e below (s₁.setTop (entryFrame m #[(.int p1), (.int p2), (.int p3), (.int p4)] maxLocals)) t := fun t k => castTop (ef_0 m p1 p2 p3 p4) k
  obtain ⟨a1n, ha1, ea1⟩ := own_mask p1
  obtain ⟨a2n, ha2, ea2⟩ := own_mask p2
  obtain ⟨a3n, ha3, ea3⟩ := own_mask p3
  obtain ⟨b1n, hb1, eb1⟩ := own_mask (XT.ushr p1 (2 : Int32))
  obtain ⟨b2n, hb2, eb2⟩ := own_mask (XT.ushr p2 (2 : Int32))
  obtain ⟨b3n, hb3, eb3⟩ := own_mask (XT.ushr p3 (2 : Int32))
  obtain ⟨qn, hq4, eq4⟩ := own_mask p4
  obtain ⟨T21, h21, X21, e21, E21, A21, D21, -, st21⟩ := newO X0 hx hZ hown (hw _ (List.mem_of_getElem? (i := 0) rfl)) (hw _ (List.mem_of_getElem? (i := 1) rfl)) (hw _ (List.mem_of_getElem? (i := 2) rfl)) e0 (g := (mkF m 0 #[.val (.int p1), .val (.int p2), .val (.int p3), .val (.int p4), .unset, .unset, .unset, .unset, .unset, .unset, .unset, .unset, .unset, .unset, .unset, .unset, .unset, .unset] [])) rfl (hb hby at_0) (by decide) (by decide)
  obtain ⟨o, go⟩ : ∃ z, z = h0.size := ⟨_, rfl⟩
  rw [← go] at A21 D21 st21
  have F21 : Fld Z h21 o "com/example/spurion/spurion/semantics/Joins" "towards" "[I" .null := D21 (Or.inr (hw _ (List.mem_of_getElem? (i := 11) rfl))) (ty := .array .int) (by decide)
  have Z21 : n0 ≤ h21.size := Nat.le_trans Z0 E21.1
  have gn : n0 ≤ o := by rw [go]; exact Z0
  obtain ⟨_, _, ⟨T22, L22, k22, n22⟩, -, X22, ⟨Lc22, hQ22, l22, y22, z22⟩, st22⟩ := X21.specialBack hx (y := (⟨"com/example/spurion/spurion/semantics/Joins", "<init>", "(I)V"⟩ : MethodName)) rfl hown (mvT hZ (hw _ (List.mem_of_getElem? (i := 3) rfl))) (mvT hZ (hw _ (List.mem_of_getElem? (i := 4) rfl))) (mvT hZ (hw _ (List.mem_of_getElem? (i := 5) rfl))) (by decide) (backOf (W := 1) (rm1 l Z a0 hw [] o .null h21 n0 Z21 A21 F21 gn) hZ (hw _ (List.mem_of_getElem? (i := 5) rfl)) (hw _ (List.mem_of_getElem? (i := 2) rfl)) (by decide) (by decide)) (g := (mkF m 5 #[.val (.int p1), .val (.int p2), .val (.int p3), .val (.int p4), .unset, .unset, .unset, .unset, .unset, .unset, .unset, .unset, .unset, .unset, .unset, .unset, .unset, .unset] [(.int (4 : Int32)), (.ref o), (.ref o)])) rfl (by rw [hml]; rfl) (Steps.refl _) (a := o) (argsL := [(.int (4 : Int32))]) (rest := [(.ref o)]) (lenOf pd_I_V rfl) rfl (by show 2 * 0 + _ ≤ _; exact Nat.le_of_eq rfl) (hb hby at_5) (fun _ _ => ⟨rfl, e21, Nat.le_of_ble_eq_true rfl, Nat.le_of_ble_eq_true rfl⟩)
  dsimp only [Pt.U, Pt.locs, Pt.cells, Pt.slots] at X22 l22 y22 z22 st22 hQ22
  subst l22 y22 z22
  obtain ⟨rfl, N22q, K22, w, hwo, F22, A22⟩ := hQ22
  have N22 := Fr.app N0 N22q
  have E22 := A21.keep K22
  have gw : n0 ≤ w := Nat.le_trans Z21 hwo
  have ne : o ≠ w := Nat.ne_of_lt (Nat.lt_of_lt_of_le A21.lt hwo)
  have Z22 : n0 ≤ T22.heap.size := Nat.le_trans Z21 K22.1
  obtain ⟨T23, h23, X23, e23, E23, A23, st23⟩ := own_newT X22 hx hZ rfl (hw _ (List.mem_of_getElem? (i := 9) rfl)) (g := (mkF m 11 #[.val (.int p1), .val (.int p2), .val (.int p3), .val (.int p4), .val (.ref o), .unset, .unset, .unset, .unset, .unset, .unset, .unset, .unset, .unset, .unset, .unset, .unset, .unset] [(.int (4 : Int32))])) rfl (hb hby at_11) rfl (by decide) (by decide)
  obtain ⟨a23, g23⟩ : ∃ z, z = T22.heap.size := ⟨_, rfl⟩
  rw [← g23] at A23 st23
  have gr : n0 ≤ a23 := by rw [g23]; exact Z22
  have nro : o ≠ a23 := by rw [g23]; exact Nat.ne_of_lt E22.lt
  have nrw : w ≠ a23 := by rw [g23]; exact Nat.ne_of_lt A22.lt
  have E23' := E22.ext E23
  have F23 := F22.ext E23
  have AT23 := A22.ext E23
  obtain ⟨T24, h24, L24, X24, e24, N24, A24, K24, st24⟩ := own_putT X23 hx hZ e23 A23 rfl N22 gr (i := 0) (by decide) (y := 0) rfl rfl (g := (mkF m 16 #[.val (.int p1), .val (.int p2), .val (.int p3), .val (.int p4), .val (.ref o), .unset, .unset, .unset, .unset, .unset, .unset, .unset, .unset, .unset, .unset, .unset, .unset, .unset] [(.int (0 : Int32)), (.int (0 : Int32)), (.ref a23), (.ref a23)])) rfl rfl (hb hby at_16)
  have E24 := E23'.keep K24
  have F24 := F23.keep K24 (own_nin nro)
  have AT24 := AT23.keep K24 (own_nin nrw)
  obtain ⟨T25, h25, L25, X25, e25, N25, A25, K25, st25⟩ := own_putT X24 hx hZ e24 A24 rfl N24 gr (i := 1) (by decide) (y := 1) rfl rfl (g := (mkF m 20 #[.val (.int p1), .val (.int p2), .val (.int p3), .val (.int p4), .val (.ref o), .unset, .unset, .unset, .unset, .unset, .unset, .unset, .unset, .unset, .unset, .unset, .unset, .unset] [(.int (1 : Int32)), (.int (1 : Int32)), (.ref a23), (.ref a23)])) rfl rfl (hb hby at_20)
  have E25 := E24.keep K25
  have F25 := F24.keep K25 (own_nin nro)
  have AT25 := AT24.keep K25 (own_nin nrw)
  obtain ⟨T26, h26, L26, X26, e26, N26, A26, K26, st26⟩ := own_putT X25 hx hZ e25 A25 rfl N25 gr (i := 2) (by decide) (y := 2) rfl rfl (g := (mkF m 24 #[.val (.int p1), .val (.int p2), .val (.int p3), .val (.int p4), .val (.ref o), .unset, .unset, .unset, .unset, .unset, .unset, .unset, .unset, .unset, .unset, .unset, .unset, .unset] [(.int (2 : Int32)), (.int (2 : Int32)), (.ref a23), (.ref a23)])) rfl rfl (hb hby at_24)
  have E26 := E25.keep K26
  have F26 := F25.keep K26 (own_nin nro)
  have AT26 := AT25.keep K26 (own_nin nrw)
  obtain ⟨T27, h27, L27, X27, e27, N27, A27, K27, st27⟩ := own_putT X26 hx hZ e26 A26 rfl N26 gr (i := 3) (by decide) (y := 3) rfl rfl (g := (mkF m 28 #[.val (.int p1), .val (.int p2), .val (.int p3), .val (.int p4), .val (.ref o), .unset, .unset, .unset, .unset, .unset, .unset, .unset, .unset, .unset, .unset, .unset, .unset, .unset] [(.int (3 : Int32)), (.int (3 : Int32)), (.ref a23), (.ref a23)])) rfl rfl (hb hby at_28)
  have E27 := E26.keep K27
  have F27 := F26.keep K27 (own_nin nro)
  have AT27 := AT26.keep K27 (own_nin nrw)
  have Ok0 : own_Ok [0, 1, 2, 3] := own_ok_of rfl
  have R0 : own_T Z h27 a23 (own_roots [0, 1, 2, 3]) := A27
  obtain ⟨cq28, kq28, q28a, q28b, q28c⟩ := isOf hZ e27 E27
  obtain ⟨_, _, ⟨T28, L28, k28, n28⟩, -, X28, ⟨Lc28, hQ28, l28, y28, z28⟩, st28⟩ := X27.virtualBack hx (y := (⟨"com/example/spurion/spurion/semantics/Joins", "union", "(II)V"⟩ : MethodName)) (z := (⟨"com/example/spurion/spurion/semantics/Joins", "union", "(II)V"⟩ : MethodName)) hown (mvT hZ (hw _ (List.mem_of_getElem? (i := 12) rfl))) (mvT hZ (hw _ (List.mem_of_getElem? (i := 13) rfl))) (notFace_of_selects (args := #[]) (mvT hZ (hw _ (List.mem_of_getElem? (i := 15) rfl)))) (mvT hZ (hw _ (List.mem_of_getElem? (i := 15) rfl))) (mvT hZ (hw _ (List.mem_of_getElem? (i := 14) rfl))) (by decide) (backOf (W := 0) (rm3 l Z a0 hw [] o w [0, 1, 2, 3] a1n b1n h27 n0 Ok0 ha1 hb1 E27 F27 AT27 gw ne) hZ (hw _ (List.mem_of_getElem? (i := 16) rfl)) (hw _ (List.mem_of_getElem? (i := 2) rfl)) (by decide) (by decide)) q28a q28c (g := (mkF m 49 #[.val (.int p1), .val (.int p2), .val (.int p3), .val (.int p4), .val (.ref o), .val (.ref a23), .val (.int (Int32.ofNat a1n)), .val (.int (Int32.ofNat b1n)), .unset, .unset, .unset, .unset, .unset, .unset, .unset, .unset, .unset, .unset] [(.int (Int32.ofNat b1n)), (.int (Int32.ofNat a1n)), (.ref o)])) rfl (by rw [hml]; rfl) (Steps.refl _) (argsL := [(.int (Int32.ofNat a1n)), (.int (Int32.ofNat b1n))]) (rest := []) (lenOf pd_II_V rfl) rfl (by show 2 * 0 + _ ≤ _; exact Nat.le_of_eq rfl) (hb hby at_49) (fun _ _ => ⟨rfl, e27, Nat.le_of_ble_eq_true rfl, Nat.le_of_ble_eq_true rfl⟩)
  dsimp only [Pt.U, Pt.locs, Pt.cells, Pt.slots] at X28 l28 y28 z28 st28 hQ28
  subst l28 y28 z28
  obtain ⟨rfl, N28q, K28, AT28⟩ := hQ28
  have N28 := Fr.app N27 N28q
  have E28 := E27.keep K28
  have F28 := F27.keep K28 (own_nin ne)
  have AR28 := R0.keep K28 (own_nin (fun z => nrw z.symm))
  have U1 := own_union_says Ok0 ha1 hb1
  obtain ⟨_, _, ⟨T29, L29, k29, n29⟩, -, X29, ⟨Lc29, hQ29, l29, y29, z29⟩, st29⟩ := Jvm.LawKit.callS X28 hx (y := (⟨"com/example/spurion/spurion/semantics/JoinsNamedPinLaw", "join", "([III)V"⟩ : MethodName)) hown (mvT hZ (hw _ (List.mem_of_getElem? (i := 22) rfl))) (mvT hZ (hw _ (List.mem_of_getElem? (i := 23) rfl))) (mvT hZ (hw _ (List.mem_of_getElem? (i := 24) rfl))) (mvT hZ (hw _ (List.mem_of_getElem? (i := 25) rfl))) (by decide) (backOf (W := 0) (rm5 l Z a0 hw [] a23 (own_roots [0, 1, 2, 3]) a1n b1n T28.heap n0 rfl (fun q hq => own_roots_lt Ok0 hq) ha1 hb1 AR28 gr) hZ (hw _ (List.mem_of_getElem? (i := 25) rfl)) (hw _ (List.mem_of_getElem? (i := 24) rfl)) (by decide) (by decide)) (g := (mkF m 58 #[.val (.int p1), .val (.int p2), .val (.int p3), .val (.int p4), .val (.ref o), .val (.ref a23), .val (.int (Int32.ofNat a1n)), .val (.int (Int32.ofNat b1n)), .unset, .unset, .unset, .unset, .unset, .unset, .unset, .unset, .unset, .unset] [(.int (Int32.ofNat b1n)), (.int (Int32.ofNat a1n)), (.ref a23)])) rfl (by rw [hml]; rfl) (argsL := [(.ref a23), (.int (Int32.ofNat a1n)), (.int (Int32.ofNat b1n))]) (rest := []) (lenOf pd_AII_V rfl) rfl (by show 2 * 0 + _ ≤ _; exact Nat.le_of_eq rfl) (hb hby at_58) (fun _ _ => ⟨rfl, rfl, Nat.le_of_ble_eq_true rfl, Nat.le_of_ble_eq_true rfl⟩)
  dsimp only [Pt.U, Pt.locs, Pt.cells, Pt.slots] at X29 l29 y29 z29 st29 hQ29
  subst l29 y29 z29
  obtain ⟨rfl, N29q, K29, AR29⟩ := hQ29
  have N29 := Fr.app N28 N29q
  have E29 := E28.keep K29
  have F29 := F28.keep K29 (own_nin nro)
  have AT29 := AT28.keep K29 (own_nin nrw)
  rw [← U1.2] at AR29
  have Ok1 := U1.1
  generalize own_union [0, 1, 2, 3] a1n b1n = t1 at AT29 AR29 Ok1
  obtain ⟨cq30, kq30, q30a, q30b, q30c⟩ := isOf hZ rfl E29
  obtain ⟨_, _, ⟨T30, L30, k30, n30⟩, -, X30, ⟨Lc30, hQ30, l30, y30, z30⟩, st30⟩ := X29.virtualBack hx (y := (⟨"com/example/spurion/spurion/semantics/Joins", "union", "(II)V"⟩ : MethodName)) (z := (⟨"com/example/spurion/spurion/semantics/Joins", "union", "(II)V"⟩ : MethodName)) hown (mvT hZ (hw _ (List.mem_of_getElem? (i := 12) rfl))) (mvT hZ (hw _ (List.mem_of_getElem? (i := 13) rfl))) (notFace_of_selects (args := #[]) (mvT hZ (hw _ (List.mem_of_getElem? (i := 15) rfl)))) (mvT hZ (hw _ (List.mem_of_getElem? (i := 15) rfl))) (mvT hZ (hw _ (List.mem_of_getElem? (i := 14) rfl))) (by decide) (backOf (W := 0) (rm3 l Z a0 hw [] o w t1 a2n b2n T29.heap n0 Ok1 ha2 hb2 E29 F29 AT29 gw ne) hZ (hw _ (List.mem_of_getElem? (i := 16) rfl)) (hw _ (List.mem_of_getElem? (i := 2) rfl)) (by decide) (by decide)) q30a q30c (g := (mkF m 79 #[.val (.int p1), .val (.int p2), .val (.int p3), .val (.int p4), .val (.ref o), .val (.ref a23), .val (.int (Int32.ofNat a1n)), .val (.int (Int32.ofNat b1n)), .val (.int (Int32.ofNat a2n)), .val (.int (Int32.ofNat b2n)), .unset, .unset, .unset, .unset, .unset, .unset, .unset, .unset] [(.int (Int32.ofNat b2n)), (.int (Int32.ofNat a2n)), (.ref o)])) rfl (by rw [hml]; rfl) (Steps.refl _) (argsL := [(.int (Int32.ofNat a2n)), (.int (Int32.ofNat b2n))]) (rest := []) (lenOf pd_II_V rfl) rfl (by show 2 * 0 + _ ≤ _; exact Nat.le_of_eq rfl) (hb hby at_79) (fun _ _ => ⟨rfl, rfl, Nat.le_of_ble_eq_true rfl, Nat.le_of_ble_eq_true rfl⟩)
  dsimp only [Pt.U, Pt.locs, Pt.cells, Pt.slots] at X30 l30 y30 z30 st30 hQ30
  subst l30 y30 z30
  obtain ⟨rfl, N30q, K30, AT30⟩ := hQ30
  have N30 := Fr.app N29 N30q
  have E30 := E29.keep K30
  have F30 := F29.keep K30 (own_nin ne)
  have AR30 := AR29.keep K30 (own_nin (fun z => nrw z.symm))
  have U2 := own_union_says Ok1 ha2 hb2
  obtain ⟨_, _, ⟨T31, L31, k31, n31⟩, -, X31, ⟨Lc31, hQ31, l31, y31, z31⟩, st31⟩ := Jvm.LawKit.callS X30 hx (y := (⟨"com/example/spurion/spurion/semantics/JoinsNamedPinLaw", "join", "([III)V"⟩ : MethodName)) hown (mvT hZ (hw _ (List.mem_of_getElem? (i := 22) rfl))) (mvT hZ (hw _ (List.mem_of_getElem? (i := 23) rfl))) (mvT hZ (hw _ (List.mem_of_getElem? (i := 24) rfl))) (mvT hZ (hw _ (List.mem_of_getElem? (i := 25) rfl))) (by decide) (backOf (W := 0) (rm5 l Z a0 hw [] a23 (own_roots t1) a2n b2n T30.heap n0 rfl (fun q hq => own_roots_lt Ok1 hq) ha2 hb2 AR30 gr) hZ (hw _ (List.mem_of_getElem? (i := 25) rfl)) (hw _ (List.mem_of_getElem? (i := 24) rfl)) (by decide) (by decide)) (g := (mkF m 88 #[.val (.int p1), .val (.int p2), .val (.int p3), .val (.int p4), .val (.ref o), .val (.ref a23), .val (.int (Int32.ofNat a1n)), .val (.int (Int32.ofNat b1n)), .val (.int (Int32.ofNat a2n)), .val (.int (Int32.ofNat b2n)), .unset, .unset, .unset, .unset, .unset, .unset, .unset, .unset] [(.int (Int32.ofNat b2n)), (.int (Int32.ofNat a2n)), (.ref a23)])) rfl (by rw [hml]; rfl) (argsL := [(.ref a23), (.int (Int32.ofNat a2n)), (.int (Int32.ofNat b2n))]) (rest := []) (lenOf pd_AII_V rfl) rfl (by show 2 * 0 + _ ≤ _; exact Nat.le_of_eq rfl) (hb hby at_88) (fun _ _ => ⟨rfl, rfl, Nat.le_of_ble_eq_true rfl, Nat.le_of_ble_eq_true rfl⟩)
  dsimp only [Pt.U, Pt.locs, Pt.cells, Pt.slots] at X31 l31 y31 z31 st31 hQ31
  subst l31 y31 z31
  obtain ⟨rfl, N31q, K31, AR31⟩ := hQ31
  have N31 := Fr.app N30 N31q
  have E31 := E30.keep K31
  have F31 := F30.keep K31 (own_nin nro)
  have AT31 := AT30.keep K31 (own_nin nrw)
  rw [← U2.2] at AR31
  have Ok2 := U2.1
  generalize own_union t1 a2n b2n = t2 at AT31 AR31 Ok2
  obtain ⟨cq32, kq32, q32a, q32b, q32c⟩ := isOf hZ rfl E31
  obtain ⟨_, _, ⟨T32, L32, k32, n32⟩, -, X32, ⟨Lc32, hQ32, l32, y32, z32⟩, st32⟩ := X31.virtualBack hx (y := (⟨"com/example/spurion/spurion/semantics/Joins", "union", "(II)V"⟩ : MethodName)) (z := (⟨"com/example/spurion/spurion/semantics/Joins", "union", "(II)V"⟩ : MethodName)) hown (mvT hZ (hw _ (List.mem_of_getElem? (i := 12) rfl))) (mvT hZ (hw _ (List.mem_of_getElem? (i := 13) rfl))) (notFace_of_selects (args := #[]) (mvT hZ (hw _ (List.mem_of_getElem? (i := 15) rfl)))) (mvT hZ (hw _ (List.mem_of_getElem? (i := 15) rfl))) (mvT hZ (hw _ (List.mem_of_getElem? (i := 14) rfl))) (by decide) (backOf (W := 0) (rm3 l Z a0 hw [] o w t2 a3n b3n T31.heap n0 Ok2 ha3 hb3 E31 F31 AT31 gw ne) hZ (hw _ (List.mem_of_getElem? (i := 16) rfl)) (hw _ (List.mem_of_getElem? (i := 2) rfl)) (by decide) (by decide)) q32a q32c (g := (mkF m 109 #[.val (.int p1), .val (.int p2), .val (.int p3), .val (.int p4), .val (.ref o), .val (.ref a23), .val (.int (Int32.ofNat a1n)), .val (.int (Int32.ofNat b1n)), .val (.int (Int32.ofNat a2n)), .val (.int (Int32.ofNat b2n)), .val (.int (Int32.ofNat a3n)), .val (.int (Int32.ofNat b3n)), .unset, .unset, .unset, .unset, .unset, .unset] [(.int (Int32.ofNat b3n)), (.int (Int32.ofNat a3n)), (.ref o)])) rfl (by rw [hml]; rfl) (Steps.refl _) (argsL := [(.int (Int32.ofNat a3n)), (.int (Int32.ofNat b3n))]) (rest := []) (lenOf pd_II_V rfl) rfl (by show 2 * 0 + _ ≤ _; exact Nat.le_of_eq rfl) (hb hby at_109) (fun _ _ => ⟨rfl, rfl, Nat.le_of_ble_eq_true rfl, Nat.le_of_ble_eq_true rfl⟩)
  dsimp only [Pt.U, Pt.locs, Pt.cells, Pt.slots] at X32 l32 y32 z32 st32 hQ32
  subst l32 y32 z32
  obtain ⟨rfl, N32q, K32, AT32⟩ := hQ32
  have N32 := Fr.app N31 N32q
  have E32 := E31.keep K32
  have F32 := F31.keep K32 (own_nin ne)
  have AR32 := AR31.keep K32 (own_nin (fun z => nrw z.symm))
  have U3 := own_union_says Ok2 ha3 hb3
  obtain ⟨_, _, ⟨T33, L33, k33, n33⟩, -, X33, ⟨Lc33, hQ33, l33, y33, z33⟩, st33⟩ := Jvm.LawKit.callS X32 hx (y := (⟨"com/example/spurion/spurion/semantics/JoinsNamedPinLaw", "join", "([III)V"⟩ : MethodName)) hown (mvT hZ (hw _ (List.mem_of_getElem? (i := 22) rfl))) (mvT hZ (hw _ (List.mem_of_getElem? (i := 23) rfl))) (mvT hZ (hw _ (List.mem_of_getElem? (i := 24) rfl))) (mvT hZ (hw _ (List.mem_of_getElem? (i := 25) rfl))) (by decide) (backOf (W := 0) (rm5 l Z a0 hw [] a23 (own_roots t2) a3n b3n T32.heap n0 rfl (fun q hq => own_roots_lt Ok2 hq) ha3 hb3 AR32 gr) hZ (hw _ (List.mem_of_getElem? (i := 25) rfl)) (hw _ (List.mem_of_getElem? (i := 24) rfl)) (by decide) (by decide)) (g := (mkF m 118 #[.val (.int p1), .val (.int p2), .val (.int p3), .val (.int p4), .val (.ref o), .val (.ref a23), .val (.int (Int32.ofNat a1n)), .val (.int (Int32.ofNat b1n)), .val (.int (Int32.ofNat a2n)), .val (.int (Int32.ofNat b2n)), .val (.int (Int32.ofNat a3n)), .val (.int (Int32.ofNat b3n)), .unset, .unset, .unset, .unset, .unset, .unset] [(.int (Int32.ofNat b3n)), (.int (Int32.ofNat a3n)), (.ref a23)])) rfl (by rw [hml]; rfl) (argsL := [(.ref a23), (.int (Int32.ofNat a3n)), (.int (Int32.ofNat b3n))]) (rest := []) (lenOf pd_AII_V rfl) rfl (by show 2 * 0 + _ ≤ _; exact Nat.le_of_eq rfl) (hb hby at_118) (fun _ _ => ⟨rfl, rfl, Nat.le_of_ble_eq_true rfl, Nat.le_of_ble_eq_true rfl⟩)
  dsimp only [Pt.U, Pt.locs, Pt.cells, Pt.slots] at X33 l33 y33 z33 st33 hQ33
  subst l33 y33 z33
  obtain ⟨rfl, N33q, K33, AR33⟩ := hQ33
  have N33 := Fr.app N32 N33q
  have E33 := E32.keep K33
  have F33 := F32.keep K33 (own_nin nro)
  have AT33 := AT32.keep K33 (own_nin nrw)
  rw [← U3.2] at AR33
  have Ok3 := U3.1
  generalize own_union t2 a3n b3n = t3 at AT33 AR33 Ok3
  have Rt : own_roots t3 = own_roots t3 := rfl
  obtain ⟨cq34, kq34, q34a, q34b, q34c⟩ := isOf hZ rfl E33
  obtain ⟨_, _, ⟨T34, L34, k34, n34⟩, -, X34, ⟨Lc34, hQ34, l34, y34, z34⟩, st34⟩ := X33.virtualBack hx (y := (⟨"com/example/spurion/spurion/semantics/Joins", "named", "(I)I"⟩ : MethodName)) (z := (⟨"com/example/spurion/spurion/semantics/Joins", "named", "(I)I"⟩ : MethodName)) hown (mvT hZ (hw _ (List.mem_of_getElem? (i := 34) rfl))) (mvT hZ (hw _ (List.mem_of_getElem? (i := 18) rfl))) (notFace_of_selects (args := #[]) (mvT hZ (hw _ (List.mem_of_getElem? (i := 20) rfl)))) (mvT hZ (hw _ (List.mem_of_getElem? (i := 20) rfl))) (mvT hZ (hw _ (List.mem_of_getElem? (i := 19) rfl))) (by decide) (backOf (W := 0) (rm4 l Z a0 hw [] o w t3 qn T33.heap n0 Ok3 hq4 F33 AT33 gw ne) hZ (hw _ (List.mem_of_getElem? (i := 21) rfl)) (hw _ (List.mem_of_getElem? (i := 2) rfl)) (by decide) (by decide)) q34a q34c (g := (mkF m 130 #[.val (.int p1), .val (.int p2), .val (.int p3), .val (.int p4), .val (.ref o), .val (.ref a23), .val (.int (Int32.ofNat a1n)), .val (.int (Int32.ofNat b1n)), .val (.int (Int32.ofNat a2n)), .val (.int (Int32.ofNat b2n)), .val (.int (Int32.ofNat a3n)), .val (.int (Int32.ofNat b3n)), .val (.int (Int32.ofNat qn)), .unset, .unset, .unset, .unset, .unset] [(.int (Int32.ofNat qn)), (.ref o)])) rfl (by rw [hml]; rfl) (Steps.refl _) (argsL := [(.int (Int32.ofNat qn))]) (rest := []) (lenOf pd_I_I rfl) rfl (by show 2 * 0 + _ ≤ _; exact Nat.le_of_eq rfl) (hb hby at_130) (fun _ _ => ⟨rfl, rfl, Nat.le_of_ble_eq_true rfl, Nat.le_of_ble_eq_true rfl⟩)
  dsimp only [Pt.U, Pt.locs, Pt.cells, Pt.slots] at X34 l34 y34 z34 st34 hQ34
  subst l34 y34 z34
  obtain ⟨rfl, N34q, K34, AT34⟩ := hQ34
  have N34 := Fr.app N33 N34q
  have E34 := E33.keep K34
  have F34 := F33.keep K34 (own_nin ne)
  have AR34 := AR33.keep K34 (own_nin (fun z => nrw z.symm))
  have S34 := own_named_says Ok3 (i := qn) hq4
  have Ok34 := S34.1
  have eq34 : Int32.ofNat (own_loop 3 t3 qn).2 = Int32.ofNat ((own_roots t3).getD qn 0) := by rw [S34.2.2.1]
  have rt1 : own_roots (own_loop 3 t3 qn).1 = own_roots t3 := S34.2.1
  have st35 := own_getT X34 hx hZ rfl AR34 rfl (i := qn) hq4 rfl (g := (mkF m 137 #[.val (.int p1), .val (.int p2), .val (.int p3), .val (.int p4), .val (.ref o), .val (.ref a23), .val (.int (Int32.ofNat a1n)), .val (.int (Int32.ofNat b1n)), .val (.int (Int32.ofNat a2n)), .val (.int (Int32.ofNat b2n)), .val (.int (Int32.ofNat a3n)), .val (.int (Int32.ofNat b3n)), .val (.int (Int32.ofNat qn)), .unset, .unset, .unset, .unset, .unset] [(.int (Int32.ofNat qn)), (.ref a23), (.int (Int32.ofNat (own_loop 3 t3 qn).2))])) rfl rfl (hb hby at_137)
  obtain ⟨cq36, kq36, q36a, q36b, q36c⟩ := isOf hZ rfl E34
  obtain ⟨_, _, ⟨T36, L36, k36, n36⟩, -, X36, ⟨Lc36, hQ36, l36, y36, z36⟩, st36⟩ := X34.virtualBack hx (y := (⟨"com/example/spurion/spurion/semantics/Joins", "named", "(I)I"⟩ : MethodName)) (z := (⟨"com/example/spurion/spurion/semantics/Joins", "named", "(I)I"⟩ : MethodName)) hown (mvT hZ (hw _ (List.mem_of_getElem? (i := 34) rfl))) (mvT hZ (hw _ (List.mem_of_getElem? (i := 18) rfl))) (notFace_of_selects (args := #[]) (mvT hZ (hw _ (List.mem_of_getElem? (i := 20) rfl)))) (mvT hZ (hw _ (List.mem_of_getElem? (i := 20) rfl))) (mvT hZ (hw _ (List.mem_of_getElem? (i := 19) rfl))) (by decide) (backOf (W := 0) (rm4 l Z a0 hw [] o w (own_loop 3 t3 qn).1 0 T34.heap n0 Ok34 (by decide) F34 AT34 gw ne) hZ (hw _ (List.mem_of_getElem? (i := 21) rfl)) (hw _ (List.mem_of_getElem? (i := 2) rfl)) (by decide) (by decide)) q36a q36c (g := (mkF m 151 #[.val (.int p1), .val (.int p2), .val (.int p3), .val (.int p4), .val (.ref o), .val (.ref a23), .val (.int (Int32.ofNat a1n)), .val (.int (Int32.ofNat b1n)), .val (.int (Int32.ofNat a2n)), .val (.int (Int32.ofNat b2n)), .val (.int (Int32.ofNat a3n)), .val (.int (Int32.ofNat b3n)), .val (.int (Int32.ofNat qn)), .val (.int (1 : Int32)), .unset, .unset, .unset, .unset] [(.int (Int32.ofNat 0)), (.ref o)])) rfl (by rw [hml]; rfl) (Steps.refl _) (argsL := [(.int (Int32.ofNat 0))]) (rest := []) (lenOf pd_I_I rfl) rfl (by show 2 * 0 + _ ≤ _; exact Nat.le_of_eq rfl) (hb hby at_151) (fun _ _ => ⟨rfl, rfl, Nat.le_of_ble_eq_true rfl, Nat.le_of_ble_eq_true rfl⟩)
  dsimp only [Pt.U, Pt.locs, Pt.cells, Pt.slots] at X36 l36 y36 z36 st36 hQ36
  subst l36 y36 z36
  obtain ⟨rfl, N36q, K36, AT36⟩ := hQ36
  have N36 := Fr.app N34 N36q
  have E36 := E34.keep K36
  have F36 := F34.keep K36 (own_nin ne)
  have AR36 := AR34.keep K36 (own_nin (fun z => nrw z.symm))
  have S36 := own_named_says Ok34 (i := 0) (by decide)
  have Ok36 := S36.1
  have eq36 : Int32.ofNat (own_loop 3 (own_loop 3 t3 qn).1 0).2 = Int32.ofNat ((own_roots t3).getD 0 0) := by rw [S36.2.2.1, rt1]
  have rt2 : own_roots (own_loop 3 (own_loop 3 t3 qn).1 0).1 = own_roots t3 := S36.2.1.trans rt1
  have st37 := own_getT X36 hx hZ rfl AR36 rfl (i := 0) (by decide) rfl (g := (mkF m 157 #[.val (.int p1), .val (.int p2), .val (.int p3), .val (.int p4), .val (.ref o), .val (.ref a23), .val (.int (Int32.ofNat a1n)), .val (.int (Int32.ofNat b1n)), .val (.int (Int32.ofNat a2n)), .val (.int (Int32.ofNat b2n)), .val (.int (Int32.ofNat a3n)), .val (.int (Int32.ofNat b3n)), .val (.int (Int32.ofNat qn)), .val (.int (1 : Int32)), .unset, .unset, .unset, .unset] [(.int (Int32.ofNat 0)), (.ref a23), (.int (Int32.ofNat (own_loop 3 (own_loop 3 t3 qn).1 0).2))])) rfl rfl (hb hby at_157)
  obtain ⟨cq38, kq38, q38a, q38b, q38c⟩ := isOf hZ rfl E36
  obtain ⟨_, _, ⟨T38, L38, k38, n38⟩, -, X38, ⟨Lc38, hQ38, l38, y38, z38⟩, st38⟩ := X36.virtualBack hx (y := (⟨"com/example/spurion/spurion/semantics/Joins", "named", "(I)I"⟩ : MethodName)) (z := (⟨"com/example/spurion/spurion/semantics/Joins", "named", "(I)I"⟩ : MethodName)) hown (mvT hZ (hw _ (List.mem_of_getElem? (i := 34) rfl))) (mvT hZ (hw _ (List.mem_of_getElem? (i := 18) rfl))) (notFace_of_selects (args := #[]) (mvT hZ (hw _ (List.mem_of_getElem? (i := 20) rfl)))) (mvT hZ (hw _ (List.mem_of_getElem? (i := 20) rfl))) (mvT hZ (hw _ (List.mem_of_getElem? (i := 19) rfl))) (by decide) (backOf (W := 0) (rm4 l Z a0 hw [] o w (own_loop 3 (own_loop 3 t3 qn).1 0).1 1 T36.heap n0 Ok36 (by decide) F36 AT36 gw ne) hZ (hw _ (List.mem_of_getElem? (i := 21) rfl)) (hw _ (List.mem_of_getElem? (i := 2) rfl)) (by decide) (by decide)) q38a q38c (g := (mkF m 171 #[.val (.int p1), .val (.int p2), .val (.int p3), .val (.int p4), .val (.ref o), .val (.ref a23), .val (.int (Int32.ofNat a1n)), .val (.int (Int32.ofNat b1n)), .val (.int (Int32.ofNat a2n)), .val (.int (Int32.ofNat b2n)), .val (.int (Int32.ofNat a3n)), .val (.int (Int32.ofNat b3n)), .val (.int (Int32.ofNat qn)), .val (.int (1 : Int32)), .val (.int (1 : Int32)), .unset, .unset, .unset] [(.int (Int32.ofNat 1)), (.ref o)])) rfl (by rw [hml]; rfl) (Steps.refl _) (argsL := [(.int (Int32.ofNat 1))]) (rest := []) (lenOf pd_I_I rfl) rfl (by show 2 * 0 + _ ≤ _; exact Nat.le_of_eq rfl) (hb hby at_171) (fun _ _ => ⟨rfl, rfl, Nat.le_of_ble_eq_true rfl, Nat.le_of_ble_eq_true rfl⟩)
  dsimp only [Pt.U, Pt.locs, Pt.cells, Pt.slots] at X38 l38 y38 z38 st38 hQ38
  subst l38 y38 z38
  obtain ⟨rfl, N38q, K38, AT38⟩ := hQ38
  have N38 := Fr.app N36 N38q
  have E38 := E36.keep K38
  have F38 := F36.keep K38 (own_nin ne)
  have AR38 := AR36.keep K38 (own_nin (fun z => nrw z.symm))
  have S38 := own_named_says Ok36 (i := 1) (by decide)
  have Ok38 := S38.1
  have eq38 : Int32.ofNat (own_loop 3 (own_loop 3 (own_loop 3 t3 qn).1 0).1 1).2 = Int32.ofNat ((own_roots t3).getD 1 0) := by rw [S38.2.2.1, rt2]
  have rt3 : own_roots (own_loop 3 (own_loop 3 (own_loop 3 t3 qn).1 0).1 1).1 = own_roots t3 := S38.2.1.trans rt2
  have st39 := own_getT X38 hx hZ rfl AR38 rfl (i := 1) (by decide) rfl (g := (mkF m 177 #[.val (.int p1), .val (.int p2), .val (.int p3), .val (.int p4), .val (.ref o), .val (.ref a23), .val (.int (Int32.ofNat a1n)), .val (.int (Int32.ofNat b1n)), .val (.int (Int32.ofNat a2n)), .val (.int (Int32.ofNat b2n)), .val (.int (Int32.ofNat a3n)), .val (.int (Int32.ofNat b3n)), .val (.int (Int32.ofNat qn)), .val (.int (1 : Int32)), .val (.int (1 : Int32)), .unset, .unset, .unset] [(.int (Int32.ofNat 1)), (.ref a23), (.int (Int32.ofNat (own_loop 3 (own_loop 3 (own_loop 3 t3 qn).1 0).1 1).2))])) rfl rfl (hb hby at_177)
  obtain ⟨cq40, kq40, q40a, q40b, q40c⟩ := isOf hZ rfl E38
  obtain ⟨_, _, ⟨T40, L40, k40, n40⟩, -, X40, ⟨Lc40, hQ40, l40, y40, z40⟩, st40⟩ := X38.virtualBack hx (y := (⟨"com/example/spurion/spurion/semantics/Joins", "named", "(I)I"⟩ : MethodName)) (z := (⟨"com/example/spurion/spurion/semantics/Joins", "named", "(I)I"⟩ : MethodName)) hown (mvT hZ (hw _ (List.mem_of_getElem? (i := 34) rfl))) (mvT hZ (hw _ (List.mem_of_getElem? (i := 18) rfl))) (notFace_of_selects (args := #[]) (mvT hZ (hw _ (List.mem_of_getElem? (i := 20) rfl)))) (mvT hZ (hw _ (List.mem_of_getElem? (i := 20) rfl))) (mvT hZ (hw _ (List.mem_of_getElem? (i := 19) rfl))) (by decide) (backOf (W := 0) (rm4 l Z a0 hw [] o w (own_loop 3 (own_loop 3 (own_loop 3 t3 qn).1 0).1 1).1 2 T38.heap n0 Ok38 (by decide) F38 AT38 gw ne) hZ (hw _ (List.mem_of_getElem? (i := 21) rfl)) (hw _ (List.mem_of_getElem? (i := 2) rfl)) (by decide) (by decide)) q40a q40c (g := (mkF m 191 #[.val (.int p1), .val (.int p2), .val (.int p3), .val (.int p4), .val (.ref o), .val (.ref a23), .val (.int (Int32.ofNat a1n)), .val (.int (Int32.ofNat b1n)), .val (.int (Int32.ofNat a2n)), .val (.int (Int32.ofNat b2n)), .val (.int (Int32.ofNat a3n)), .val (.int (Int32.ofNat b3n)), .val (.int (Int32.ofNat qn)), .val (.int (1 : Int32)), .val (.int (1 : Int32)), .val (.int (1 : Int32)), .unset, .unset] [(.int (Int32.ofNat 2)), (.ref o)])) rfl (by rw [hml]; rfl) (Steps.refl _) (argsL := [(.int (Int32.ofNat 2))]) (rest := []) (lenOf pd_I_I rfl) rfl (by show 2 * 0 + _ ≤ _; exact Nat.le_of_eq rfl) (hb hby at_191) (fun _ _ => ⟨rfl, rfl, Nat.le_of_ble_eq_true rfl, Nat.le_of_ble_eq_true rfl⟩)
  dsimp only [Pt.U, Pt.locs, Pt.cells, Pt.slots] at X40 l40 y40 z40 st40 hQ40
  subst l40 y40 z40
  obtain ⟨rfl, N40q, K40, AT40⟩ := hQ40
  have N40 := Fr.app N38 N40q
  have E40 := E38.keep K40
  have F40 := F38.keep K40 (own_nin ne)
  have AR40 := AR38.keep K40 (own_nin (fun z => nrw z.symm))
  have S40 := own_named_says Ok38 (i := 2) (by decide)
  have Ok40 := S40.1
  have eq40 : Int32.ofNat (own_loop 3 (own_loop 3 (own_loop 3 (own_loop 3 t3 qn).1 0).1 1).1 2).2 = Int32.ofNat ((own_roots t3).getD 2 0) := by rw [S40.2.2.1, rt3]
  have rt4 : own_roots (own_loop 3 (own_loop 3 (own_loop 3 (own_loop 3 t3 qn).1 0).1 1).1 2).1 = own_roots t3 := S40.2.1.trans rt3
  have st41 := own_getT X40 hx hZ rfl AR40 rfl (i := 2) (by decide) rfl (g := (mkF m 197 #[.val (.int p1), .val (.int p2), .val (.int p3), .val (.int p4), .val (.ref o), .val (.ref a23), .val (.int (Int32.ofNat a1n)), .val (.int (Int32.ofNat b1n)), .val (.int (Int32.ofNat a2n)), .val (.int (Int32.ofNat b2n)), .val (.int (Int32.ofNat a3n)), .val (.int (Int32.ofNat b3n)), .val (.int (Int32.ofNat qn)), .val (.int (1 : Int32)), .val (.int (1 : Int32)), .val (.int (1 : Int32)), .unset, .unset] [(.int (Int32.ofNat 2)), (.ref a23), (.int (Int32.ofNat (own_loop 3 (own_loop 3 (own_loop 3 (own_loop 3 t3 qn).1 0).1 1).1 2).2))])) rfl rfl (hb hby at_197)
  obtain ⟨cq42, kq42, q42a, q42b, q42c⟩ := isOf hZ rfl E40
  obtain ⟨_, _, ⟨T42, L42, k42, n42⟩, -, X42, ⟨Lc42, hQ42, l42, y42, z42⟩, st42⟩ := X40.virtualBack hx (y := (⟨"com/example/spurion/spurion/semantics/Joins", "named", "(I)I"⟩ : MethodName)) (z := (⟨"com/example/spurion/spurion/semantics/Joins", "named", "(I)I"⟩ : MethodName)) hown (mvT hZ (hw _ (List.mem_of_getElem? (i := 34) rfl))) (mvT hZ (hw _ (List.mem_of_getElem? (i := 18) rfl))) (notFace_of_selects (args := #[]) (mvT hZ (hw _ (List.mem_of_getElem? (i := 20) rfl)))) (mvT hZ (hw _ (List.mem_of_getElem? (i := 20) rfl))) (mvT hZ (hw _ (List.mem_of_getElem? (i := 19) rfl))) (by decide) (backOf (W := 0) (rm4 l Z a0 hw [] o w (own_loop 3 (own_loop 3 (own_loop 3 (own_loop 3 t3 qn).1 0).1 1).1 2).1 3 T40.heap n0 Ok40 (by decide) F40 AT40 gw ne) hZ (hw _ (List.mem_of_getElem? (i := 21) rfl)) (hw _ (List.mem_of_getElem? (i := 2) rfl)) (by decide) (by decide)) q42a q42c (g := (mkF m 211 #[.val (.int p1), .val (.int p2), .val (.int p3), .val (.int p4), .val (.ref o), .val (.ref a23), .val (.int (Int32.ofNat a1n)), .val (.int (Int32.ofNat b1n)), .val (.int (Int32.ofNat a2n)), .val (.int (Int32.ofNat b2n)), .val (.int (Int32.ofNat a3n)), .val (.int (Int32.ofNat b3n)), .val (.int (Int32.ofNat qn)), .val (.int (1 : Int32)), .val (.int (1 : Int32)), .val (.int (1 : Int32)), .val (.int (1 : Int32)), .unset] [(.int (Int32.ofNat 3)), (.ref o)])) rfl (by rw [hml]; rfl) (Steps.refl _) (argsL := [(.int (Int32.ofNat 3))]) (rest := []) (lenOf pd_I_I rfl) rfl (by show 2 * 0 + _ ≤ _; exact Nat.le_of_eq rfl) (hb hby at_211) (fun _ _ => ⟨rfl, rfl, Nat.le_of_ble_eq_true rfl, Nat.le_of_ble_eq_true rfl⟩)
  dsimp only [Pt.U, Pt.locs, Pt.cells, Pt.slots] at X42 l42 y42 z42 st42 hQ42
  subst l42 y42 z42
  obtain ⟨rfl, N42q, K42, AT42⟩ := hQ42
  have N42 := Fr.app N40 N42q
  have E42 := E40.keep K42
  have F42 := F40.keep K42 (own_nin ne)
  have AR42 := AR40.keep K42 (own_nin (fun z => nrw z.symm))
  have S42 := own_named_says Ok40 (i := 3) (by decide)
  have Ok42 := S42.1
  have eq42 : Int32.ofNat (own_loop 3 (own_loop 3 (own_loop 3 (own_loop 3 (own_loop 3 t3 qn).1 0).1 1).1 2).1 3).2 = Int32.ofNat ((own_roots t3).getD 3 0) := by rw [S42.2.2.1, rt4]
  have rt5 : own_roots (own_loop 3 (own_loop 3 (own_loop 3 (own_loop 3 (own_loop 3 t3 qn).1 0).1 1).1 2).1 3).1 = own_roots t3 := S42.2.1.trans rt4
  have st43 := own_getT X42 hx hZ rfl AR42 rfl (i := 3) (by decide) rfl (g := (mkF m 217 #[.val (.int p1), .val (.int p2), .val (.int p3), .val (.int p4), .val (.ref o), .val (.ref a23), .val (.int (Int32.ofNat a1n)), .val (.int (Int32.ofNat b1n)), .val (.int (Int32.ofNat a2n)), .val (.int (Int32.ofNat b2n)), .val (.int (Int32.ofNat a3n)), .val (.int (Int32.ofNat b3n)), .val (.int (Int32.ofNat qn)), .val (.int (1 : Int32)), .val (.int (1 : Int32)), .val (.int (1 : Int32)), .val (.int (1 : Int32)), .unset] [(.int (Int32.ofNat 3)), (.ref a23), (.int (Int32.ofNat (own_loop 3 (own_loop 3 (own_loop 3 (own_loop 3 (own_loop 3 t3 qn).1 0).1 1).1 2).1 3).2))])) rfl rfl (hb hby at_217)
  obtain ⟨fs, hr, hrun, hended, hW, hsame⟩ := X42.leave (v := some (.int (1 : Int32))) (fun h => by rw [hret] at h; cases h)
  have N := N42
  refine ⟨_, _, pre0 _ ?_, hrun, hended, _, _, rfl, ⟨rfl, N⟩, ⟨_, rfl⟩, hW, hsame.mono (by decide) (by decide)⟩
  show Steps p.tables e below (s₁.setTop (mkF m 0 #[.val (.int p1), .val (.int p2), .val (.int p3), .val (.int p4), .unset, .unset, .unset, .unset, .unset, .unset, .unset, .unset, .unset, .unset, .unset, .unset, .unset, .unset] [])) _
  refine st21 _ ?_
  show Steps p.tables e below (T21.setTop (mkF m 3 #[.val (.int p1), .val (.int p2), .val (.int p3), .val (.int p4), .unset, .unset, .unset, .unset, .unset, .unset, .unset, .unset, .unset, .unset, .unset, .unset, .unset, .unset] [(.ref o)])) _
  refine XS.dup X21.here hx rfl (hb hby at_3) rfl rfl ?_
  show Steps p.tables e below (T21.setTop (mkF m 4 #[.val (.int p1), .val (.int p2), .val (.int p3), .val (.int p4), .unset, .unset, .unset, .unset, .unset, .unset, .unset, .unset, .unset, .unset, .unset, .unset, .unset, .unset] [(.ref o), (.ref o)])) _
  refine XS.iconst X21.here hx rfl (hb hby at_4) ?_
  show Steps p.tables e below (T21.setTop (mkF m 5 #[.val (.int p1), .val (.int p2), .val (.int p3), .val (.int p4), .unset, .unset, .unset, .unset, .unset, .unset, .unset, .unset, .unset, .unset, .unset, .unset, .unset, .unset] [(.int (4 : Int32)), (.ref o), (.ref o)])) _
  refine st22.trans ?_
  show Steps p.tables e below (T22.setTop (mkF m 8 #[.val (.int p1), .val (.int p2), .val (.int p3), .val (.int p4), .unset, .unset, .unset, .unset, .unset, .unset, .unset, .unset, .unset, .unset, .unset, .unset, .unset, .unset] [(.ref o)])) _
  refine XS.astore X22.here hx rfl (hb hby at_8) rfl rfl (l' := #[.val (.int p1), .val (.int p2), .val (.int p3), .val (.int p4), .val (.ref o), .unset, .unset, .unset, .unset, .unset, .unset, .unset, .unset, .unset, .unset, .unset, .unset, .unset]) rfl ?_
  show Steps p.tables e below (T22.setTop (mkF m 10 #[.val (.int p1), .val (.int p2), .val (.int p3), .val (.int p4), .val (.ref o), .unset, .unset, .unset, .unset, .unset, .unset, .unset, .unset, .unset, .unset, .unset, .unset, .unset] [])) _
  refine XS.iconst X22.here hx rfl (hb hby at_10) ?_
  show Steps p.tables e below (T22.setTop (mkF m 11 #[.val (.int p1), .val (.int p2), .val (.int p3), .val (.int p4), .val (.ref o), .unset, .unset, .unset, .unset, .unset, .unset, .unset, .unset, .unset, .unset, .unset, .unset, .unset] [(.int (4 : Int32))])) _
  refine st23 _ ?_
  show Steps p.tables e below (T23.setTop (mkF m 13 #[.val (.int p1), .val (.int p2), .val (.int p3), .val (.int p4), .val (.ref o), .unset, .unset, .unset, .unset, .unset, .unset, .unset, .unset, .unset, .unset, .unset, .unset, .unset] [(.ref a23)])) _
  refine XS.dup X23.here hx rfl (hb hby at_13) rfl rfl ?_
  show Steps p.tables e below (T23.setTop (mkF m 14 #[.val (.int p1), .val (.int p2), .val (.int p3), .val (.int p4), .val (.ref o), .unset, .unset, .unset, .unset, .unset, .unset, .unset, .unset, .unset, .unset, .unset, .unset, .unset] [(.ref a23), (.ref a23)])) _
  refine XS.iconst X23.here hx rfl (hb hby at_14) ?_
  show Steps p.tables e below (T23.setTop (mkF m 15 #[.val (.int p1), .val (.int p2), .val (.int p3), .val (.int p4), .val (.ref o), .unset, .unset, .unset, .unset, .unset, .unset, .unset, .unset, .unset, .unset, .unset, .unset, .unset] [(.int (0 : Int32)), (.ref a23), (.ref a23)])) _
  refine XS.iconst X23.here hx rfl (hb hby at_15) ?_
  show Steps p.tables e below (T23.setTop (mkF m 16 #[.val (.int p1), .val (.int p2), .val (.int p3), .val (.int p4), .val (.ref o), .unset, .unset, .unset, .unset, .unset, .unset, .unset, .unset, .unset, .unset, .unset, .unset, .unset] [(.int (0 : Int32)), (.int (0 : Int32)), (.ref a23), (.ref a23)])) _
  refine st24 _ ?_
  show Steps p.tables e below (T24.setTop (mkF m 17 #[.val (.int p1), .val (.int p2), .val (.int p3), .val (.int p4), .val (.ref o), .unset, .unset, .unset, .unset, .unset, .unset, .unset, .unset, .unset, .unset, .unset, .unset, .unset] [(.ref a23)])) _
  refine XS.dup X24.here hx rfl (hb hby at_17) rfl rfl ?_
  show Steps p.tables e below (T24.setTop (mkF m 18 #[.val (.int p1), .val (.int p2), .val (.int p3), .val (.int p4), .val (.ref o), .unset, .unset, .unset, .unset, .unset, .unset, .unset, .unset, .unset, .unset, .unset, .unset, .unset] [(.ref a23), (.ref a23)])) _
  refine XS.iconst X24.here hx rfl (hb hby at_18) ?_
  show Steps p.tables e below (T24.setTop (mkF m 19 #[.val (.int p1), .val (.int p2), .val (.int p3), .val (.int p4), .val (.ref o), .unset, .unset, .unset, .unset, .unset, .unset, .unset, .unset, .unset, .unset, .unset, .unset, .unset] [(.int (1 : Int32)), (.ref a23), (.ref a23)])) _
  refine XS.iconst X24.here hx rfl (hb hby at_19) ?_
  show Steps p.tables e below (T24.setTop (mkF m 20 #[.val (.int p1), .val (.int p2), .val (.int p3), .val (.int p4), .val (.ref o), .unset, .unset, .unset, .unset, .unset, .unset, .unset, .unset, .unset, .unset, .unset, .unset, .unset] [(.int (1 : Int32)), (.int (1 : Int32)), (.ref a23), (.ref a23)])) _
  refine st25 _ ?_
  show Steps p.tables e below (T25.setTop (mkF m 21 #[.val (.int p1), .val (.int p2), .val (.int p3), .val (.int p4), .val (.ref o), .unset, .unset, .unset, .unset, .unset, .unset, .unset, .unset, .unset, .unset, .unset, .unset, .unset] [(.ref a23)])) _
  refine XS.dup X25.here hx rfl (hb hby at_21) rfl rfl ?_
  show Steps p.tables e below (T25.setTop (mkF m 22 #[.val (.int p1), .val (.int p2), .val (.int p3), .val (.int p4), .val (.ref o), .unset, .unset, .unset, .unset, .unset, .unset, .unset, .unset, .unset, .unset, .unset, .unset, .unset] [(.ref a23), (.ref a23)])) _
  refine XS.iconst X25.here hx rfl (hb hby at_22) ?_
  show Steps p.tables e below (T25.setTop (mkF m 23 #[.val (.int p1), .val (.int p2), .val (.int p3), .val (.int p4), .val (.ref o), .unset, .unset, .unset, .unset, .unset, .unset, .unset, .unset, .unset, .unset, .unset, .unset, .unset] [(.int (2 : Int32)), (.ref a23), (.ref a23)])) _
  refine XS.iconst X25.here hx rfl (hb hby at_23) ?_
  show Steps p.tables e below (T25.setTop (mkF m 24 #[.val (.int p1), .val (.int p2), .val (.int p3), .val (.int p4), .val (.ref o), .unset, .unset, .unset, .unset, .unset, .unset, .unset, .unset, .unset, .unset, .unset, .unset, .unset] [(.int (2 : Int32)), (.int (2 : Int32)), (.ref a23), (.ref a23)])) _
  refine st26 _ ?_
  show Steps p.tables e below (T26.setTop (mkF m 25 #[.val (.int p1), .val (.int p2), .val (.int p3), .val (.int p4), .val (.ref o), .unset, .unset, .unset, .unset, .unset, .unset, .unset, .unset, .unset, .unset, .unset, .unset, .unset] [(.ref a23)])) _
  refine XS.dup X26.here hx rfl (hb hby at_25) rfl rfl ?_
  show Steps p.tables e below (T26.setTop (mkF m 26 #[.val (.int p1), .val (.int p2), .val (.int p3), .val (.int p4), .val (.ref o), .unset, .unset, .unset, .unset, .unset, .unset, .unset, .unset, .unset, .unset, .unset, .unset, .unset] [(.ref a23), (.ref a23)])) _
  refine XS.iconst X26.here hx rfl (hb hby at_26) ?_
  show Steps p.tables e below (T26.setTop (mkF m 27 #[.val (.int p1), .val (.int p2), .val (.int p3), .val (.int p4), .val (.ref o), .unset, .unset, .unset, .unset, .unset, .unset, .unset, .unset, .unset, .unset, .unset, .unset, .unset] [(.int (3 : Int32)), (.ref a23), (.ref a23)])) _
  refine XS.iconst X26.here hx rfl (hb hby at_27) ?_
  show Steps p.tables e below (T26.setTop (mkF m 28 #[.val (.int p1), .val (.int p2), .val (.int p3), .val (.int p4), .val (.ref o), .unset, .unset, .unset, .unset, .unset, .unset, .unset, .unset, .unset, .unset, .unset, .unset, .unset] [(.int (3 : Int32)), (.int (3 : Int32)), (.ref a23), (.ref a23)])) _
  refine st27 _ ?_
  show Steps p.tables e below (T27.setTop (mkF m 29 #[.val (.int p1), .val (.int p2), .val (.int p3), .val (.int p4), .val (.ref o), .unset, .unset, .unset, .unset, .unset, .unset, .unset, .unset, .unset, .unset, .unset, .unset, .unset] [(.ref a23)])) _
  refine XS.astore X27.here hx rfl (hb hby at_29) rfl rfl (l' := #[.val (.int p1), .val (.int p2), .val (.int p3), .val (.int p4), .val (.ref o), .val (.ref a23), .unset, .unset, .unset, .unset, .unset, .unset, .unset, .unset, .unset, .unset, .unset, .unset]) rfl ?_
  show Steps p.tables e below (T27.setTop (mkF m 31 #[.val (.int p1), .val (.int p2), .val (.int p3), .val (.int p4), .val (.ref o), .val (.ref a23), .unset, .unset, .unset, .unset, .unset, .unset, .unset, .unset, .unset, .unset, .unset, .unset] [])) _
  refine XS.iloadN X27.here hx rfl (hb hby at_31) rfl ?_
  show Steps p.tables e below (T27.setTop (mkF m 32 #[.val (.int p1), .val (.int p2), .val (.int p3), .val (.int p4), .val (.ref o), .val (.ref a23), .unset, .unset, .unset, .unset, .unset, .unset, .unset, .unset, .unset, .unset, .unset, .unset] [(.int p1)])) _
  refine XS.iconst X27.here hx rfl (hb hby at_32) ?_
  show Steps p.tables e below (T27.setTop (mkF m 33 #[.val (.int p1), .val (.int p2), .val (.int p3), .val (.int p4), .val (.ref o), .val (.ref a23), .unset, .unset, .unset, .unset, .unset, .unset, .unset, .unset, .unset, .unset, .unset, .unset] [(.int (3 : Int32)), (.int p1)])) _
  refine XS.iand X27.here hx rfl (hb hby at_33) rfl ?_
  show Steps p.tables e below (T27.setTop (mkF m 34 #[.val (.int p1), .val (.int p2), .val (.int p3), .val (.int p4), .val (.ref o), .val (.ref a23), .unset, .unset, .unset, .unset, .unset, .unset, .unset, .unset, .unset, .unset, .unset, .unset] [(.int (p1 &&& (3 : Int32)))])) _
  rw [ea1]
  show Steps p.tables e below (T27.setTop (mkF m 34 #[.val (.int p1), .val (.int p2), .val (.int p3), .val (.int p4), .val (.ref o), .val (.ref a23), .unset, .unset, .unset, .unset, .unset, .unset, .unset, .unset, .unset, .unset, .unset, .unset] [(.int (Int32.ofNat a1n))])) _
  refine XS.istore X27.here hx rfl (hb hby at_34) rfl (l' := #[.val (.int p1), .val (.int p2), .val (.int p3), .val (.int p4), .val (.ref o), .val (.ref a23), .val (.int (Int32.ofNat a1n)), .unset, .unset, .unset, .unset, .unset, .unset, .unset, .unset, .unset, .unset, .unset]) rfl ?_
  show Steps p.tables e below (T27.setTop (mkF m 36 #[.val (.int p1), .val (.int p2), .val (.int p3), .val (.int p4), .val (.ref o), .val (.ref a23), .val (.int (Int32.ofNat a1n)), .unset, .unset, .unset, .unset, .unset, .unset, .unset, .unset, .unset, .unset, .unset] [])) _
  refine XS.iloadN X27.here hx rfl (hb hby at_36) rfl ?_
  show Steps p.tables e below (T27.setTop (mkF m 37 #[.val (.int p1), .val (.int p2), .val (.int p3), .val (.int p4), .val (.ref o), .val (.ref a23), .val (.int (Int32.ofNat a1n)), .unset, .unset, .unset, .unset, .unset, .unset, .unset, .unset, .unset, .unset, .unset] [(.int p1)])) _
  refine XS.iconst X27.here hx rfl (hb hby at_37) ?_
  show Steps p.tables e below (T27.setTop (mkF m 38 #[.val (.int p1), .val (.int p2), .val (.int p3), .val (.int p4), .val (.ref o), .val (.ref a23), .val (.int (Int32.ofNat a1n)), .unset, .unset, .unset, .unset, .unset, .unset, .unset, .unset, .unset, .unset, .unset] [(.int (2 : Int32)), (.int p1)])) _
  refine XT.iushr X27.here hx rfl (hb hby at_38) rfl ?_
  show Steps p.tables e below (T27.setTop (mkF m 39 #[.val (.int p1), .val (.int p2), .val (.int p3), .val (.int p4), .val (.ref o), .val (.ref a23), .val (.int (Int32.ofNat a1n)), .unset, .unset, .unset, .unset, .unset, .unset, .unset, .unset, .unset, .unset, .unset] [(.int (XT.ushr p1 (2 : Int32)))])) _
  refine XS.iconst X27.here hx rfl (hb hby at_39) ?_
  show Steps p.tables e below (T27.setTop (mkF m 40 #[.val (.int p1), .val (.int p2), .val (.int p3), .val (.int p4), .val (.ref o), .val (.ref a23), .val (.int (Int32.ofNat a1n)), .unset, .unset, .unset, .unset, .unset, .unset, .unset, .unset, .unset, .unset, .unset] [(.int (3 : Int32)), (.int (XT.ushr p1 (2 : Int32)))])) _
  refine XS.iand X27.here hx rfl (hb hby at_40) rfl ?_
  show Steps p.tables e below (T27.setTop (mkF m 41 #[.val (.int p1), .val (.int p2), .val (.int p3), .val (.int p4), .val (.ref o), .val (.ref a23), .val (.int (Int32.ofNat a1n)), .unset, .unset, .unset, .unset, .unset, .unset, .unset, .unset, .unset, .unset, .unset] [(.int ((XT.ushr p1 (2 : Int32)) &&& (3 : Int32)))])) _
  rw [eb1]
  show Steps p.tables e below (T27.setTop (mkF m 41 #[.val (.int p1), .val (.int p2), .val (.int p3), .val (.int p4), .val (.ref o), .val (.ref a23), .val (.int (Int32.ofNat a1n)), .unset, .unset, .unset, .unset, .unset, .unset, .unset, .unset, .unset, .unset, .unset] [(.int (Int32.ofNat b1n))])) _
  refine XS.istore X27.here hx rfl (hb hby at_41) rfl (l' := #[.val (.int p1), .val (.int p2), .val (.int p3), .val (.int p4), .val (.ref o), .val (.ref a23), .val (.int (Int32.ofNat a1n)), .val (.int (Int32.ofNat b1n)), .unset, .unset, .unset, .unset, .unset, .unset, .unset, .unset, .unset, .unset]) rfl ?_
  show Steps p.tables e below (T27.setTop (mkF m 43 #[.val (.int p1), .val (.int p2), .val (.int p3), .val (.int p4), .val (.ref o), .val (.ref a23), .val (.int (Int32.ofNat a1n)), .val (.int (Int32.ofNat b1n)), .unset, .unset, .unset, .unset, .unset, .unset, .unset, .unset, .unset, .unset] [])) _
  refine XS.aload X27.here hx rfl (hb hby at_43) rfl rfl ?_
  show Steps p.tables e below (T27.setTop (mkF m 45 #[.val (.int p1), .val (.int p2), .val (.int p3), .val (.int p4), .val (.ref o), .val (.ref a23), .val (.int (Int32.ofNat a1n)), .val (.int (Int32.ofNat b1n)), .unset, .unset, .unset, .unset, .unset, .unset, .unset, .unset, .unset, .unset] [(.ref o)])) _
  refine XS.iload X27.here hx rfl (hb hby at_45) rfl ?_
  show Steps p.tables e below (T27.setTop (mkF m 47 #[.val (.int p1), .val (.int p2), .val (.int p3), .val (.int p4), .val (.ref o), .val (.ref a23), .val (.int (Int32.ofNat a1n)), .val (.int (Int32.ofNat b1n)), .unset, .unset, .unset, .unset, .unset, .unset, .unset, .unset, .unset, .unset] [(.int (Int32.ofNat a1n)), (.ref o)])) _
  refine XS.iload X27.here hx rfl (hb hby at_47) rfl ?_
  show Steps p.tables e below (T27.setTop (mkF m 49 #[.val (.int p1), .val (.int p2), .val (.int p3), .val (.int p4), .val (.ref o), .val (.ref a23), .val (.int (Int32.ofNat a1n)), .val (.int (Int32.ofNat b1n)), .unset, .unset, .unset, .unset, .unset, .unset, .unset, .unset, .unset, .unset] [(.int (Int32.ofNat b1n)), (.int (Int32.ofNat a1n)), (.ref o)])) _
  refine st28.trans ?_
  show Steps p.tables e below (T28.setTop (mkF m 52 #[.val (.int p1), .val (.int p2), .val (.int p3), .val (.int p4), .val (.ref o), .val (.ref a23), .val (.int (Int32.ofNat a1n)), .val (.int (Int32.ofNat b1n)), .unset, .unset, .unset, .unset, .unset, .unset, .unset, .unset, .unset, .unset] [])) _
  refine XS.aload X28.here hx rfl (hb hby at_52) rfl rfl ?_
  show Steps p.tables e below (T28.setTop (mkF m 54 #[.val (.int p1), .val (.int p2), .val (.int p3), .val (.int p4), .val (.ref o), .val (.ref a23), .val (.int (Int32.ofNat a1n)), .val (.int (Int32.ofNat b1n)), .unset, .unset, .unset, .unset, .unset, .unset, .unset, .unset, .unset, .unset] [(.ref a23)])) _
  refine XS.iload X28.here hx rfl (hb hby at_54) rfl ?_
  show Steps p.tables e below (T28.setTop (mkF m 56 #[.val (.int p1), .val (.int p2), .val (.int p3), .val (.int p4), .val (.ref o), .val (.ref a23), .val (.int (Int32.ofNat a1n)), .val (.int (Int32.ofNat b1n)), .unset, .unset, .unset, .unset, .unset, .unset, .unset, .unset, .unset, .unset] [(.int (Int32.ofNat a1n)), (.ref a23)])) _
  refine XS.iload X28.here hx rfl (hb hby at_56) rfl ?_
  show Steps p.tables e below (T28.setTop (mkF m 58 #[.val (.int p1), .val (.int p2), .val (.int p3), .val (.int p4), .val (.ref o), .val (.ref a23), .val (.int (Int32.ofNat a1n)), .val (.int (Int32.ofNat b1n)), .unset, .unset, .unset, .unset, .unset, .unset, .unset, .unset, .unset, .unset] [(.int (Int32.ofNat b1n)), (.int (Int32.ofNat a1n)), (.ref a23)])) _
  refine st29 _ ?_
  show Steps p.tables e below (T29.setTop (mkF m 61 #[.val (.int p1), .val (.int p2), .val (.int p3), .val (.int p4), .val (.ref o), .val (.ref a23), .val (.int (Int32.ofNat a1n)), .val (.int (Int32.ofNat b1n)), .unset, .unset, .unset, .unset, .unset, .unset, .unset, .unset, .unset, .unset] [])) _
  refine XS.iloadN X29.here hx rfl (hb hby at_61) rfl ?_
  show Steps p.tables e below (T29.setTop (mkF m 62 #[.val (.int p1), .val (.int p2), .val (.int p3), .val (.int p4), .val (.ref o), .val (.ref a23), .val (.int (Int32.ofNat a1n)), .val (.int (Int32.ofNat b1n)), .unset, .unset, .unset, .unset, .unset, .unset, .unset, .unset, .unset, .unset] [(.int p2)])) _
  refine XS.iconst X29.here hx rfl (hb hby at_62) ?_
  show Steps p.tables e below (T29.setTop (mkF m 63 #[.val (.int p1), .val (.int p2), .val (.int p3), .val (.int p4), .val (.ref o), .val (.ref a23), .val (.int (Int32.ofNat a1n)), .val (.int (Int32.ofNat b1n)), .unset, .unset, .unset, .unset, .unset, .unset, .unset, .unset, .unset, .unset] [(.int (3 : Int32)), (.int p2)])) _
  refine XS.iand X29.here hx rfl (hb hby at_63) rfl ?_
  show Steps p.tables e below (T29.setTop (mkF m 64 #[.val (.int p1), .val (.int p2), .val (.int p3), .val (.int p4), .val (.ref o), .val (.ref a23), .val (.int (Int32.ofNat a1n)), .val (.int (Int32.ofNat b1n)), .unset, .unset, .unset, .unset, .unset, .unset, .unset, .unset, .unset, .unset] [(.int (p2 &&& (3 : Int32)))])) _
  rw [ea2]
  show Steps p.tables e below (T29.setTop (mkF m 64 #[.val (.int p1), .val (.int p2), .val (.int p3), .val (.int p4), .val (.ref o), .val (.ref a23), .val (.int (Int32.ofNat a1n)), .val (.int (Int32.ofNat b1n)), .unset, .unset, .unset, .unset, .unset, .unset, .unset, .unset, .unset, .unset] [(.int (Int32.ofNat a2n))])) _
  refine XS.istore X29.here hx rfl (hb hby at_64) rfl (l' := #[.val (.int p1), .val (.int p2), .val (.int p3), .val (.int p4), .val (.ref o), .val (.ref a23), .val (.int (Int32.ofNat a1n)), .val (.int (Int32.ofNat b1n)), .val (.int (Int32.ofNat a2n)), .unset, .unset, .unset, .unset, .unset, .unset, .unset, .unset, .unset]) rfl ?_
  show Steps p.tables e below (T29.setTop (mkF m 66 #[.val (.int p1), .val (.int p2), .val (.int p3), .val (.int p4), .val (.ref o), .val (.ref a23), .val (.int (Int32.ofNat a1n)), .val (.int (Int32.ofNat b1n)), .val (.int (Int32.ofNat a2n)), .unset, .unset, .unset, .unset, .unset, .unset, .unset, .unset, .unset] [])) _
  refine XS.iloadN X29.here hx rfl (hb hby at_66) rfl ?_
  show Steps p.tables e below (T29.setTop (mkF m 67 #[.val (.int p1), .val (.int p2), .val (.int p3), .val (.int p4), .val (.ref o), .val (.ref a23), .val (.int (Int32.ofNat a1n)), .val (.int (Int32.ofNat b1n)), .val (.int (Int32.ofNat a2n)), .unset, .unset, .unset, .unset, .unset, .unset, .unset, .unset, .unset] [(.int p2)])) _
  refine XS.iconst X29.here hx rfl (hb hby at_67) ?_
  show Steps p.tables e below (T29.setTop (mkF m 68 #[.val (.int p1), .val (.int p2), .val (.int p3), .val (.int p4), .val (.ref o), .val (.ref a23), .val (.int (Int32.ofNat a1n)), .val (.int (Int32.ofNat b1n)), .val (.int (Int32.ofNat a2n)), .unset, .unset, .unset, .unset, .unset, .unset, .unset, .unset, .unset] [(.int (2 : Int32)), (.int p2)])) _
  refine XT.iushr X29.here hx rfl (hb hby at_68) rfl ?_
  show Steps p.tables e below (T29.setTop (mkF m 69 #[.val (.int p1), .val (.int p2), .val (.int p3), .val (.int p4), .val (.ref o), .val (.ref a23), .val (.int (Int32.ofNat a1n)), .val (.int (Int32.ofNat b1n)), .val (.int (Int32.ofNat a2n)), .unset, .unset, .unset, .unset, .unset, .unset, .unset, .unset, .unset] [(.int (XT.ushr p2 (2 : Int32)))])) _
  refine XS.iconst X29.here hx rfl (hb hby at_69) ?_
  show Steps p.tables e below (T29.setTop (mkF m 70 #[.val (.int p1), .val (.int p2), .val (.int p3), .val (.int p4), .val (.ref o), .val (.ref a23), .val (.int (Int32.ofNat a1n)), .val (.int (Int32.ofNat b1n)), .val (.int (Int32.ofNat a2n)), .unset, .unset, .unset, .unset, .unset, .unset, .unset, .unset, .unset] [(.int (3 : Int32)), (.int (XT.ushr p2 (2 : Int32)))])) _
  refine XS.iand X29.here hx rfl (hb hby at_70) rfl ?_
  show Steps p.tables e below (T29.setTop (mkF m 71 #[.val (.int p1), .val (.int p2), .val (.int p3), .val (.int p4), .val (.ref o), .val (.ref a23), .val (.int (Int32.ofNat a1n)), .val (.int (Int32.ofNat b1n)), .val (.int (Int32.ofNat a2n)), .unset, .unset, .unset, .unset, .unset, .unset, .unset, .unset, .unset] [(.int ((XT.ushr p2 (2 : Int32)) &&& (3 : Int32)))])) _
  rw [eb2]
  show Steps p.tables e below (T29.setTop (mkF m 71 #[.val (.int p1), .val (.int p2), .val (.int p3), .val (.int p4), .val (.ref o), .val (.ref a23), .val (.int (Int32.ofNat a1n)), .val (.int (Int32.ofNat b1n)), .val (.int (Int32.ofNat a2n)), .unset, .unset, .unset, .unset, .unset, .unset, .unset, .unset, .unset] [(.int (Int32.ofNat b2n))])) _
  refine XS.istore X29.here hx rfl (hb hby at_71) rfl (l' := #[.val (.int p1), .val (.int p2), .val (.int p3), .val (.int p4), .val (.ref o), .val (.ref a23), .val (.int (Int32.ofNat a1n)), .val (.int (Int32.ofNat b1n)), .val (.int (Int32.ofNat a2n)), .val (.int (Int32.ofNat b2n)), .unset, .unset, .unset, .unset, .unset, .unset, .unset, .unset]) rfl ?_
  show Steps p.tables e below (T29.setTop (mkF m 73 #[.val (.int p1), .val (.int p2), .val (.int p3), .val (.int p4), .val (.ref o), .val (.ref a23), .val (.int (Int32.ofNat a1n)), .val (.int (Int32.ofNat b1n)), .val (.int (Int32.ofNat a2n)), .val (.int (Int32.ofNat b2n)), .unset, .unset, .unset, .unset, .unset, .unset, .unset, .unset] [])) _
  refine XS.aload X29.here hx rfl (hb hby at_73) rfl rfl ?_
  show Steps p.tables e below (T29.setTop (mkF m 75 #[.val (.int p1), .val (.int p2), .val (.int p3), .val (.int p4), .val (.ref o), .val (.ref a23), .val (.int (Int32.ofNat a1n)), .val (.int (Int32.ofNat b1n)), .val (.int (Int32.ofNat a2n)), .val (.int (Int32.ofNat b2n)), .unset, .unset, .unset, .unset, .unset, .unset, .unset, .unset] [(.ref o)])) _
  refine XS.iload X29.here hx rfl (hb hby at_75) rfl ?_
  show Steps p.tables e below (T29.setTop (mkF m 77 #[.val (.int p1), .val (.int p2), .val (.int p3), .val (.int p4), .val (.ref o), .val (.ref a23), .val (.int (Int32.ofNat a1n)), .val (.int (Int32.ofNat b1n)), .val (.int (Int32.ofNat a2n)), .val (.int (Int32.ofNat b2n)), .unset, .unset, .unset, .unset, .unset, .unset, .unset, .unset] [(.int (Int32.ofNat a2n)), (.ref o)])) _
  refine XS.iload X29.here hx rfl (hb hby at_77) rfl ?_
  show Steps p.tables e below (T29.setTop (mkF m 79 #[.val (.int p1), .val (.int p2), .val (.int p3), .val (.int p4), .val (.ref o), .val (.ref a23), .val (.int (Int32.ofNat a1n)), .val (.int (Int32.ofNat b1n)), .val (.int (Int32.ofNat a2n)), .val (.int (Int32.ofNat b2n)), .unset, .unset, .unset, .unset, .unset, .unset, .unset, .unset] [(.int (Int32.ofNat b2n)), (.int (Int32.ofNat a2n)), (.ref o)])) _
  refine st30.trans ?_
  show Steps p.tables e below (T30.setTop (mkF m 82 #[.val (.int p1), .val (.int p2), .val (.int p3), .val (.int p4), .val (.ref o), .val (.ref a23), .val (.int (Int32.ofNat a1n)), .val (.int (Int32.ofNat b1n)), .val (.int (Int32.ofNat a2n)), .val (.int (Int32.ofNat b2n)), .unset, .unset, .unset, .unset, .unset, .unset, .unset, .unset] [])) _
  refine XS.aload X30.here hx rfl (hb hby at_82) rfl rfl ?_
  show Steps p.tables e below (T30.setTop (mkF m 84 #[.val (.int p1), .val (.int p2), .val (.int p3), .val (.int p4), .val (.ref o), .val (.ref a23), .val (.int (Int32.ofNat a1n)), .val (.int (Int32.ofNat b1n)), .val (.int (Int32.ofNat a2n)), .val (.int (Int32.ofNat b2n)), .unset, .unset, .unset, .unset, .unset, .unset, .unset, .unset] [(.ref a23)])) _
  refine XS.iload X30.here hx rfl (hb hby at_84) rfl ?_
  show Steps p.tables e below (T30.setTop (mkF m 86 #[.val (.int p1), .val (.int p2), .val (.int p3), .val (.int p4), .val (.ref o), .val (.ref a23), .val (.int (Int32.ofNat a1n)), .val (.int (Int32.ofNat b1n)), .val (.int (Int32.ofNat a2n)), .val (.int (Int32.ofNat b2n)), .unset, .unset, .unset, .unset, .unset, .unset, .unset, .unset] [(.int (Int32.ofNat a2n)), (.ref a23)])) _
  refine XS.iload X30.here hx rfl (hb hby at_86) rfl ?_
  show Steps p.tables e below (T30.setTop (mkF m 88 #[.val (.int p1), .val (.int p2), .val (.int p3), .val (.int p4), .val (.ref o), .val (.ref a23), .val (.int (Int32.ofNat a1n)), .val (.int (Int32.ofNat b1n)), .val (.int (Int32.ofNat a2n)), .val (.int (Int32.ofNat b2n)), .unset, .unset, .unset, .unset, .unset, .unset, .unset, .unset] [(.int (Int32.ofNat b2n)), (.int (Int32.ofNat a2n)), (.ref a23)])) _
  refine st31 _ ?_
  show Steps p.tables e below (T31.setTop (mkF m 91 #[.val (.int p1), .val (.int p2), .val (.int p3), .val (.int p4), .val (.ref o), .val (.ref a23), .val (.int (Int32.ofNat a1n)), .val (.int (Int32.ofNat b1n)), .val (.int (Int32.ofNat a2n)), .val (.int (Int32.ofNat b2n)), .unset, .unset, .unset, .unset, .unset, .unset, .unset, .unset] [])) _
  refine XS.iloadN X31.here hx rfl (hb hby at_91) rfl ?_
  show Steps p.tables e below (T31.setTop (mkF m 92 #[.val (.int p1), .val (.int p2), .val (.int p3), .val (.int p4), .val (.ref o), .val (.ref a23), .val (.int (Int32.ofNat a1n)), .val (.int (Int32.ofNat b1n)), .val (.int (Int32.ofNat a2n)), .val (.int (Int32.ofNat b2n)), .unset, .unset, .unset, .unset, .unset, .unset, .unset, .unset] [(.int p3)])) _
  refine XS.iconst X31.here hx rfl (hb hby at_92) ?_
  show Steps p.tables e below (T31.setTop (mkF m 93 #[.val (.int p1), .val (.int p2), .val (.int p3), .val (.int p4), .val (.ref o), .val (.ref a23), .val (.int (Int32.ofNat a1n)), .val (.int (Int32.ofNat b1n)), .val (.int (Int32.ofNat a2n)), .val (.int (Int32.ofNat b2n)), .unset, .unset, .unset, .unset, .unset, .unset, .unset, .unset] [(.int (3 : Int32)), (.int p3)])) _
  refine XS.iand X31.here hx rfl (hb hby at_93) rfl ?_
  show Steps p.tables e below (T31.setTop (mkF m 94 #[.val (.int p1), .val (.int p2), .val (.int p3), .val (.int p4), .val (.ref o), .val (.ref a23), .val (.int (Int32.ofNat a1n)), .val (.int (Int32.ofNat b1n)), .val (.int (Int32.ofNat a2n)), .val (.int (Int32.ofNat b2n)), .unset, .unset, .unset, .unset, .unset, .unset, .unset, .unset] [(.int (p3 &&& (3 : Int32)))])) _
  rw [ea3]
  show Steps p.tables e below (T31.setTop (mkF m 94 #[.val (.int p1), .val (.int p2), .val (.int p3), .val (.int p4), .val (.ref o), .val (.ref a23), .val (.int (Int32.ofNat a1n)), .val (.int (Int32.ofNat b1n)), .val (.int (Int32.ofNat a2n)), .val (.int (Int32.ofNat b2n)), .unset, .unset, .unset, .unset, .unset, .unset, .unset, .unset] [(.int (Int32.ofNat a3n))])) _
  refine XS.istore X31.here hx rfl (hb hby at_94) rfl (l' := #[.val (.int p1), .val (.int p2), .val (.int p3), .val (.int p4), .val (.ref o), .val (.ref a23), .val (.int (Int32.ofNat a1n)), .val (.int (Int32.ofNat b1n)), .val (.int (Int32.ofNat a2n)), .val (.int (Int32.ofNat b2n)), .val (.int (Int32.ofNat a3n)), .unset, .unset, .unset, .unset, .unset, .unset, .unset]) rfl ?_
  show Steps p.tables e below (T31.setTop (mkF m 96 #[.val (.int p1), .val (.int p2), .val (.int p3), .val (.int p4), .val (.ref o), .val (.ref a23), .val (.int (Int32.ofNat a1n)), .val (.int (Int32.ofNat b1n)), .val (.int (Int32.ofNat a2n)), .val (.int (Int32.ofNat b2n)), .val (.int (Int32.ofNat a3n)), .unset, .unset, .unset, .unset, .unset, .unset, .unset] [])) _
  refine XS.iloadN X31.here hx rfl (hb hby at_96) rfl ?_
  show Steps p.tables e below (T31.setTop (mkF m 97 #[.val (.int p1), .val (.int p2), .val (.int p3), .val (.int p4), .val (.ref o), .val (.ref a23), .val (.int (Int32.ofNat a1n)), .val (.int (Int32.ofNat b1n)), .val (.int (Int32.ofNat a2n)), .val (.int (Int32.ofNat b2n)), .val (.int (Int32.ofNat a3n)), .unset, .unset, .unset, .unset, .unset, .unset, .unset] [(.int p3)])) _
  refine XS.iconst X31.here hx rfl (hb hby at_97) ?_
  show Steps p.tables e below (T31.setTop (mkF m 98 #[.val (.int p1), .val (.int p2), .val (.int p3), .val (.int p4), .val (.ref o), .val (.ref a23), .val (.int (Int32.ofNat a1n)), .val (.int (Int32.ofNat b1n)), .val (.int (Int32.ofNat a2n)), .val (.int (Int32.ofNat b2n)), .val (.int (Int32.ofNat a3n)), .unset, .unset, .unset, .unset, .unset, .unset, .unset] [(.int (2 : Int32)), (.int p3)])) _
  refine XT.iushr X31.here hx rfl (hb hby at_98) rfl ?_
  show Steps p.tables e below (T31.setTop (mkF m 99 #[.val (.int p1), .val (.int p2), .val (.int p3), .val (.int p4), .val (.ref o), .val (.ref a23), .val (.int (Int32.ofNat a1n)), .val (.int (Int32.ofNat b1n)), .val (.int (Int32.ofNat a2n)), .val (.int (Int32.ofNat b2n)), .val (.int (Int32.ofNat a3n)), .unset, .unset, .unset, .unset, .unset, .unset, .unset] [(.int (XT.ushr p3 (2 : Int32)))])) _
  refine XS.iconst X31.here hx rfl (hb hby at_99) ?_
  show Steps p.tables e below (T31.setTop (mkF m 100 #[.val (.int p1), .val (.int p2), .val (.int p3), .val (.int p4), .val (.ref o), .val (.ref a23), .val (.int (Int32.ofNat a1n)), .val (.int (Int32.ofNat b1n)), .val (.int (Int32.ofNat a2n)), .val (.int (Int32.ofNat b2n)), .val (.int (Int32.ofNat a3n)), .unset, .unset, .unset, .unset, .unset, .unset, .unset] [(.int (3 : Int32)), (.int (XT.ushr p3 (2 : Int32)))])) _
  refine XS.iand X31.here hx rfl (hb hby at_100) rfl ?_
  show Steps p.tables e below (T31.setTop (mkF m 101 #[.val (.int p1), .val (.int p2), .val (.int p3), .val (.int p4), .val (.ref o), .val (.ref a23), .val (.int (Int32.ofNat a1n)), .val (.int (Int32.ofNat b1n)), .val (.int (Int32.ofNat a2n)), .val (.int (Int32.ofNat b2n)), .val (.int (Int32.ofNat a3n)), .unset, .unset, .unset, .unset, .unset, .unset, .unset] [(.int ((XT.ushr p3 (2 : Int32)) &&& (3 : Int32)))])) _
  rw [eb3]
  show Steps p.tables e below (T31.setTop (mkF m 101 #[.val (.int p1), .val (.int p2), .val (.int p3), .val (.int p4), .val (.ref o), .val (.ref a23), .val (.int (Int32.ofNat a1n)), .val (.int (Int32.ofNat b1n)), .val (.int (Int32.ofNat a2n)), .val (.int (Int32.ofNat b2n)), .val (.int (Int32.ofNat a3n)), .unset, .unset, .unset, .unset, .unset, .unset, .unset] [(.int (Int32.ofNat b3n))])) _
  refine XS.istore X31.here hx rfl (hb hby at_101) rfl (l' := #[.val (.int p1), .val (.int p2), .val (.int p3), .val (.int p4), .val (.ref o), .val (.ref a23), .val (.int (Int32.ofNat a1n)), .val (.int (Int32.ofNat b1n)), .val (.int (Int32.ofNat a2n)), .val (.int (Int32.ofNat b2n)), .val (.int (Int32.ofNat a3n)), .val (.int (Int32.ofNat b3n)), .unset, .unset, .unset, .unset, .unset, .unset]) rfl ?_
  show Steps p.tables e below (T31.setTop (mkF m 103 #[.val (.int p1), .val (.int p2), .val (.int p3), .val (.int p4), .val (.ref o), .val (.ref a23), .val (.int (Int32.ofNat a1n)), .val (.int (Int32.ofNat b1n)), .val (.int (Int32.ofNat a2n)), .val (.int (Int32.ofNat b2n)), .val (.int (Int32.ofNat a3n)), .val (.int (Int32.ofNat b3n)), .unset, .unset, .unset, .unset, .unset, .unset] [])) _
  refine XS.aload X31.here hx rfl (hb hby at_103) rfl rfl ?_
  show Steps p.tables e below (T31.setTop (mkF m 105 #[.val (.int p1), .val (.int p2), .val (.int p3), .val (.int p4), .val (.ref o), .val (.ref a23), .val (.int (Int32.ofNat a1n)), .val (.int (Int32.ofNat b1n)), .val (.int (Int32.ofNat a2n)), .val (.int (Int32.ofNat b2n)), .val (.int (Int32.ofNat a3n)), .val (.int (Int32.ofNat b3n)), .unset, .unset, .unset, .unset, .unset, .unset] [(.ref o)])) _
  refine XS.iload X31.here hx rfl (hb hby at_105) rfl ?_
  show Steps p.tables e below (T31.setTop (mkF m 107 #[.val (.int p1), .val (.int p2), .val (.int p3), .val (.int p4), .val (.ref o), .val (.ref a23), .val (.int (Int32.ofNat a1n)), .val (.int (Int32.ofNat b1n)), .val (.int (Int32.ofNat a2n)), .val (.int (Int32.ofNat b2n)), .val (.int (Int32.ofNat a3n)), .val (.int (Int32.ofNat b3n)), .unset, .unset, .unset, .unset, .unset, .unset] [(.int (Int32.ofNat a3n)), (.ref o)])) _
  refine XS.iload X31.here hx rfl (hb hby at_107) rfl ?_
  show Steps p.tables e below (T31.setTop (mkF m 109 #[.val (.int p1), .val (.int p2), .val (.int p3), .val (.int p4), .val (.ref o), .val (.ref a23), .val (.int (Int32.ofNat a1n)), .val (.int (Int32.ofNat b1n)), .val (.int (Int32.ofNat a2n)), .val (.int (Int32.ofNat b2n)), .val (.int (Int32.ofNat a3n)), .val (.int (Int32.ofNat b3n)), .unset, .unset, .unset, .unset, .unset, .unset] [(.int (Int32.ofNat b3n)), (.int (Int32.ofNat a3n)), (.ref o)])) _
  refine st32.trans ?_
  show Steps p.tables e below (T32.setTop (mkF m 112 #[.val (.int p1), .val (.int p2), .val (.int p3), .val (.int p4), .val (.ref o), .val (.ref a23), .val (.int (Int32.ofNat a1n)), .val (.int (Int32.ofNat b1n)), .val (.int (Int32.ofNat a2n)), .val (.int (Int32.ofNat b2n)), .val (.int (Int32.ofNat a3n)), .val (.int (Int32.ofNat b3n)), .unset, .unset, .unset, .unset, .unset, .unset] [])) _
  refine XS.aload X32.here hx rfl (hb hby at_112) rfl rfl ?_
  show Steps p.tables e below (T32.setTop (mkF m 114 #[.val (.int p1), .val (.int p2), .val (.int p3), .val (.int p4), .val (.ref o), .val (.ref a23), .val (.int (Int32.ofNat a1n)), .val (.int (Int32.ofNat b1n)), .val (.int (Int32.ofNat a2n)), .val (.int (Int32.ofNat b2n)), .val (.int (Int32.ofNat a3n)), .val (.int (Int32.ofNat b3n)), .unset, .unset, .unset, .unset, .unset, .unset] [(.ref a23)])) _
  refine XS.iload X32.here hx rfl (hb hby at_114) rfl ?_
  show Steps p.tables e below (T32.setTop (mkF m 116 #[.val (.int p1), .val (.int p2), .val (.int p3), .val (.int p4), .val (.ref o), .val (.ref a23), .val (.int (Int32.ofNat a1n)), .val (.int (Int32.ofNat b1n)), .val (.int (Int32.ofNat a2n)), .val (.int (Int32.ofNat b2n)), .val (.int (Int32.ofNat a3n)), .val (.int (Int32.ofNat b3n)), .unset, .unset, .unset, .unset, .unset, .unset] [(.int (Int32.ofNat a3n)), (.ref a23)])) _
  refine XS.iload X32.here hx rfl (hb hby at_116) rfl ?_
  show Steps p.tables e below (T32.setTop (mkF m 118 #[.val (.int p1), .val (.int p2), .val (.int p3), .val (.int p4), .val (.ref o), .val (.ref a23), .val (.int (Int32.ofNat a1n)), .val (.int (Int32.ofNat b1n)), .val (.int (Int32.ofNat a2n)), .val (.int (Int32.ofNat b2n)), .val (.int (Int32.ofNat a3n)), .val (.int (Int32.ofNat b3n)), .unset, .unset, .unset, .unset, .unset, .unset] [(.int (Int32.ofNat b3n)), (.int (Int32.ofNat a3n)), (.ref a23)])) _
  refine st33 _ ?_
  show Steps p.tables e below (T33.setTop (mkF m 121 #[.val (.int p1), .val (.int p2), .val (.int p3), .val (.int p4), .val (.ref o), .val (.ref a23), .val (.int (Int32.ofNat a1n)), .val (.int (Int32.ofNat b1n)), .val (.int (Int32.ofNat a2n)), .val (.int (Int32.ofNat b2n)), .val (.int (Int32.ofNat a3n)), .val (.int (Int32.ofNat b3n)), .unset, .unset, .unset, .unset, .unset, .unset] [])) _
  refine XS.iloadN X33.here hx rfl (hb hby at_121) rfl ?_
  show Steps p.tables e below (T33.setTop (mkF m 122 #[.val (.int p1), .val (.int p2), .val (.int p3), .val (.int p4), .val (.ref o), .val (.ref a23), .val (.int (Int32.ofNat a1n)), .val (.int (Int32.ofNat b1n)), .val (.int (Int32.ofNat a2n)), .val (.int (Int32.ofNat b2n)), .val (.int (Int32.ofNat a3n)), .val (.int (Int32.ofNat b3n)), .unset, .unset, .unset, .unset, .unset, .unset] [(.int p4)])) _
  refine XS.iconst X33.here hx rfl (hb hby at_122) ?_
  show Steps p.tables e below (T33.setTop (mkF m 123 #[.val (.int p1), .val (.int p2), .val (.int p3), .val (.int p4), .val (.ref o), .val (.ref a23), .val (.int (Int32.ofNat a1n)), .val (.int (Int32.ofNat b1n)), .val (.int (Int32.ofNat a2n)), .val (.int (Int32.ofNat b2n)), .val (.int (Int32.ofNat a3n)), .val (.int (Int32.ofNat b3n)), .unset, .unset, .unset, .unset, .unset, .unset] [(.int (3 : Int32)), (.int p4)])) _
  refine XS.iand X33.here hx rfl (hb hby at_123) rfl ?_
  show Steps p.tables e below (T33.setTop (mkF m 124 #[.val (.int p1), .val (.int p2), .val (.int p3), .val (.int p4), .val (.ref o), .val (.ref a23), .val (.int (Int32.ofNat a1n)), .val (.int (Int32.ofNat b1n)), .val (.int (Int32.ofNat a2n)), .val (.int (Int32.ofNat b2n)), .val (.int (Int32.ofNat a3n)), .val (.int (Int32.ofNat b3n)), .unset, .unset, .unset, .unset, .unset, .unset] [(.int (p4 &&& (3 : Int32)))])) _
  rw [eq4]
  show Steps p.tables e below (T33.setTop (mkF m 124 #[.val (.int p1), .val (.int p2), .val (.int p3), .val (.int p4), .val (.ref o), .val (.ref a23), .val (.int (Int32.ofNat a1n)), .val (.int (Int32.ofNat b1n)), .val (.int (Int32.ofNat a2n)), .val (.int (Int32.ofNat b2n)), .val (.int (Int32.ofNat a3n)), .val (.int (Int32.ofNat b3n)), .unset, .unset, .unset, .unset, .unset, .unset] [(.int (Int32.ofNat qn))])) _
  refine XS.istore X33.here hx rfl (hb hby at_124) rfl (l' := #[.val (.int p1), .val (.int p2), .val (.int p3), .val (.int p4), .val (.ref o), .val (.ref a23), .val (.int (Int32.ofNat a1n)), .val (.int (Int32.ofNat b1n)), .val (.int (Int32.ofNat a2n)), .val (.int (Int32.ofNat b2n)), .val (.int (Int32.ofNat a3n)), .val (.int (Int32.ofNat b3n)), .val (.int (Int32.ofNat qn)), .unset, .unset, .unset, .unset, .unset]) rfl ?_
  show Steps p.tables e below (T33.setTop (mkF m 126 #[.val (.int p1), .val (.int p2), .val (.int p3), .val (.int p4), .val (.ref o), .val (.ref a23), .val (.int (Int32.ofNat a1n)), .val (.int (Int32.ofNat b1n)), .val (.int (Int32.ofNat a2n)), .val (.int (Int32.ofNat b2n)), .val (.int (Int32.ofNat a3n)), .val (.int (Int32.ofNat b3n)), .val (.int (Int32.ofNat qn)), .unset, .unset, .unset, .unset, .unset] [])) _
  refine XS.aload X33.here hx rfl (hb hby at_126) rfl rfl ?_
  show Steps p.tables e below (T33.setTop (mkF m 128 #[.val (.int p1), .val (.int p2), .val (.int p3), .val (.int p4), .val (.ref o), .val (.ref a23), .val (.int (Int32.ofNat a1n)), .val (.int (Int32.ofNat b1n)), .val (.int (Int32.ofNat a2n)), .val (.int (Int32.ofNat b2n)), .val (.int (Int32.ofNat a3n)), .val (.int (Int32.ofNat b3n)), .val (.int (Int32.ofNat qn)), .unset, .unset, .unset, .unset, .unset] [(.ref o)])) _
  refine XS.iload X33.here hx rfl (hb hby at_128) rfl ?_
  show Steps p.tables e below (T33.setTop (mkF m 130 #[.val (.int p1), .val (.int p2), .val (.int p3), .val (.int p4), .val (.ref o), .val (.ref a23), .val (.int (Int32.ofNat a1n)), .val (.int (Int32.ofNat b1n)), .val (.int (Int32.ofNat a2n)), .val (.int (Int32.ofNat b2n)), .val (.int (Int32.ofNat a3n)), .val (.int (Int32.ofNat b3n)), .val (.int (Int32.ofNat qn)), .unset, .unset, .unset, .unset, .unset] [(.int (Int32.ofNat qn)), (.ref o)])) _
  refine st34.trans ?_
  show Steps p.tables e below (T34.setTop (mkF m 133 #[.val (.int p1), .val (.int p2), .val (.int p3), .val (.int p4), .val (.ref o), .val (.ref a23), .val (.int (Int32.ofNat a1n)), .val (.int (Int32.ofNat b1n)), .val (.int (Int32.ofNat a2n)), .val (.int (Int32.ofNat b2n)), .val (.int (Int32.ofNat a3n)), .val (.int (Int32.ofNat b3n)), .val (.int (Int32.ofNat qn)), .unset, .unset, .unset, .unset, .unset] [(.int (Int32.ofNat (own_loop 3 t3 qn).2))])) _
  refine XS.aload X34.here hx rfl (hb hby at_133) rfl rfl ?_
  show Steps p.tables e below (T34.setTop (mkF m 135 #[.val (.int p1), .val (.int p2), .val (.int p3), .val (.int p4), .val (.ref o), .val (.ref a23), .val (.int (Int32.ofNat a1n)), .val (.int (Int32.ofNat b1n)), .val (.int (Int32.ofNat a2n)), .val (.int (Int32.ofNat b2n)), .val (.int (Int32.ofNat a3n)), .val (.int (Int32.ofNat b3n)), .val (.int (Int32.ofNat qn)), .unset, .unset, .unset, .unset, .unset] [(.ref a23), (.int (Int32.ofNat (own_loop 3 t3 qn).2))])) _
  refine XS.iload X34.here hx rfl (hb hby at_135) rfl ?_
  show Steps p.tables e below (T34.setTop (mkF m 137 #[.val (.int p1), .val (.int p2), .val (.int p3), .val (.int p4), .val (.ref o), .val (.ref a23), .val (.int (Int32.ofNat a1n)), .val (.int (Int32.ofNat b1n)), .val (.int (Int32.ofNat a2n)), .val (.int (Int32.ofNat b2n)), .val (.int (Int32.ofNat a3n)), .val (.int (Int32.ofNat b3n)), .val (.int (Int32.ofNat qn)), .unset, .unset, .unset, .unset, .unset] [(.int (Int32.ofNat qn)), (.ref a23), (.int (Int32.ofNat (own_loop 3 t3 qn).2))])) _
  refine st35 _ ?_
  show Steps p.tables e below (T34.setTop (mkF m 138 #[.val (.int p1), .val (.int p2), .val (.int p3), .val (.int p4), .val (.ref o), .val (.ref a23), .val (.int (Int32.ofNat a1n)), .val (.int (Int32.ofNat b1n)), .val (.int (Int32.ofNat a2n)), .val (.int (Int32.ofNat b2n)), .val (.int (Int32.ofNat a3n)), .val (.int (Int32.ofNat b3n)), .val (.int (Int32.ofNat qn)), .unset, .unset, .unset, .unset, .unset] [(.int (Int32.ofNat ((own_roots t3).getD qn 0))), (.int (Int32.ofNat (own_loop 3 t3 qn).2))])) _
  refine XS.icmpNo X34.here hx rfl (hb hby at_138) rfl (teq eq34).2 ?_
  show Steps p.tables e below (T34.setTop (mkF m 141 #[.val (.int p1), .val (.int p2), .val (.int p3), .val (.int p4), .val (.ref o), .val (.ref a23), .val (.int (Int32.ofNat a1n)), .val (.int (Int32.ofNat b1n)), .val (.int (Int32.ofNat a2n)), .val (.int (Int32.ofNat b2n)), .val (.int (Int32.ofNat a3n)), .val (.int (Int32.ofNat b3n)), .val (.int (Int32.ofNat qn)), .unset, .unset, .unset, .unset, .unset] [])) _
  refine XS.iconst X34.here hx rfl (hb hby at_141) ?_
  show Steps p.tables e below (T34.setTop (mkF m 142 #[.val (.int p1), .val (.int p2), .val (.int p3), .val (.int p4), .val (.ref o), .val (.ref a23), .val (.int (Int32.ofNat a1n)), .val (.int (Int32.ofNat b1n)), .val (.int (Int32.ofNat a2n)), .val (.int (Int32.ofNat b2n)), .val (.int (Int32.ofNat a3n)), .val (.int (Int32.ofNat b3n)), .val (.int (Int32.ofNat qn)), .unset, .unset, .unset, .unset, .unset] [(.int (1 : Int32))])) _
  refine XS.goto X34.here hx rfl (pc0 := 142) (pc' := 146) rfl (hb hby at_142) (by decide) (by decide) ?_
  show Steps p.tables e below (T34.setTop (mkF m 146 #[.val (.int p1), .val (.int p2), .val (.int p3), .val (.int p4), .val (.ref o), .val (.ref a23), .val (.int (Int32.ofNat a1n)), .val (.int (Int32.ofNat b1n)), .val (.int (Int32.ofNat a2n)), .val (.int (Int32.ofNat b2n)), .val (.int (Int32.ofNat a3n)), .val (.int (Int32.ofNat b3n)), .val (.int (Int32.ofNat qn)), .unset, .unset, .unset, .unset, .unset] [(.int (1 : Int32))])) _
  refine XS.istore X34.here hx rfl (hb hby at_146) rfl (l' := #[.val (.int p1), .val (.int p2), .val (.int p3), .val (.int p4), .val (.ref o), .val (.ref a23), .val (.int (Int32.ofNat a1n)), .val (.int (Int32.ofNat b1n)), .val (.int (Int32.ofNat a2n)), .val (.int (Int32.ofNat b2n)), .val (.int (Int32.ofNat a3n)), .val (.int (Int32.ofNat b3n)), .val (.int (Int32.ofNat qn)), .val (.int (1 : Int32)), .unset, .unset, .unset, .unset]) rfl ?_
  show Steps p.tables e below (T34.setTop (mkF m 148 #[.val (.int p1), .val (.int p2), .val (.int p3), .val (.int p4), .val (.ref o), .val (.ref a23), .val (.int (Int32.ofNat a1n)), .val (.int (Int32.ofNat b1n)), .val (.int (Int32.ofNat a2n)), .val (.int (Int32.ofNat b2n)), .val (.int (Int32.ofNat a3n)), .val (.int (Int32.ofNat b3n)), .val (.int (Int32.ofNat qn)), .val (.int (1 : Int32)), .unset, .unset, .unset, .unset] [])) _
  refine XS.aload X34.here hx rfl (hb hby at_148) rfl rfl ?_
  show Steps p.tables e below (T34.setTop (mkF m 150 #[.val (.int p1), .val (.int p2), .val (.int p3), .val (.int p4), .val (.ref o), .val (.ref a23), .val (.int (Int32.ofNat a1n)), .val (.int (Int32.ofNat b1n)), .val (.int (Int32.ofNat a2n)), .val (.int (Int32.ofNat b2n)), .val (.int (Int32.ofNat a3n)), .val (.int (Int32.ofNat b3n)), .val (.int (Int32.ofNat qn)), .val (.int (1 : Int32)), .unset, .unset, .unset, .unset] [(.ref o)])) _
  refine XS.iconst X34.here hx rfl (hb hby at_150) ?_
  show Steps p.tables e below (T34.setTop (mkF m 151 #[.val (.int p1), .val (.int p2), .val (.int p3), .val (.int p4), .val (.ref o), .val (.ref a23), .val (.int (Int32.ofNat a1n)), .val (.int (Int32.ofNat b1n)), .val (.int (Int32.ofNat a2n)), .val (.int (Int32.ofNat b2n)), .val (.int (Int32.ofNat a3n)), .val (.int (Int32.ofNat b3n)), .val (.int (Int32.ofNat qn)), .val (.int (1 : Int32)), .unset, .unset, .unset, .unset] [(.int (0 : Int32)), (.ref o)])) _
  show Steps p.tables e below (T34.setTop (mkF m 151 #[.val (.int p1), .val (.int p2), .val (.int p3), .val (.int p4), .val (.ref o), .val (.ref a23), .val (.int (Int32.ofNat a1n)), .val (.int (Int32.ofNat b1n)), .val (.int (Int32.ofNat a2n)), .val (.int (Int32.ofNat b2n)), .val (.int (Int32.ofNat a3n)), .val (.int (Int32.ofNat b3n)), .val (.int (Int32.ofNat qn)), .val (.int (1 : Int32)), .unset, .unset, .unset, .unset] [(.int (Int32.ofNat 0)), (.ref o)])) _
  refine st36.trans ?_
  show Steps p.tables e below (T36.setTop (mkF m 154 #[.val (.int p1), .val (.int p2), .val (.int p3), .val (.int p4), .val (.ref o), .val (.ref a23), .val (.int (Int32.ofNat a1n)), .val (.int (Int32.ofNat b1n)), .val (.int (Int32.ofNat a2n)), .val (.int (Int32.ofNat b2n)), .val (.int (Int32.ofNat a3n)), .val (.int (Int32.ofNat b3n)), .val (.int (Int32.ofNat qn)), .val (.int (1 : Int32)), .unset, .unset, .unset, .unset] [(.int (Int32.ofNat (own_loop 3 (own_loop 3 t3 qn).1 0).2))])) _
  refine XS.aload X36.here hx rfl (hb hby at_154) rfl rfl ?_
  show Steps p.tables e below (T36.setTop (mkF m 156 #[.val (.int p1), .val (.int p2), .val (.int p3), .val (.int p4), .val (.ref o), .val (.ref a23), .val (.int (Int32.ofNat a1n)), .val (.int (Int32.ofNat b1n)), .val (.int (Int32.ofNat a2n)), .val (.int (Int32.ofNat b2n)), .val (.int (Int32.ofNat a3n)), .val (.int (Int32.ofNat b3n)), .val (.int (Int32.ofNat qn)), .val (.int (1 : Int32)), .unset, .unset, .unset, .unset] [(.ref a23), (.int (Int32.ofNat (own_loop 3 (own_loop 3 t3 qn).1 0).2))])) _
  refine XS.iconst X36.here hx rfl (hb hby at_156) ?_
  show Steps p.tables e below (T36.setTop (mkF m 157 #[.val (.int p1), .val (.int p2), .val (.int p3), .val (.int p4), .val (.ref o), .val (.ref a23), .val (.int (Int32.ofNat a1n)), .val (.int (Int32.ofNat b1n)), .val (.int (Int32.ofNat a2n)), .val (.int (Int32.ofNat b2n)), .val (.int (Int32.ofNat a3n)), .val (.int (Int32.ofNat b3n)), .val (.int (Int32.ofNat qn)), .val (.int (1 : Int32)), .unset, .unset, .unset, .unset] [(.int (0 : Int32)), (.ref a23), (.int (Int32.ofNat (own_loop 3 (own_loop 3 t3 qn).1 0).2))])) _
  show Steps p.tables e below (T36.setTop (mkF m 157 #[.val (.int p1), .val (.int p2), .val (.int p3), .val (.int p4), .val (.ref o), .val (.ref a23), .val (.int (Int32.ofNat a1n)), .val (.int (Int32.ofNat b1n)), .val (.int (Int32.ofNat a2n)), .val (.int (Int32.ofNat b2n)), .val (.int (Int32.ofNat a3n)), .val (.int (Int32.ofNat b3n)), .val (.int (Int32.ofNat qn)), .val (.int (1 : Int32)), .unset, .unset, .unset, .unset] [(.int (Int32.ofNat 0)), (.ref a23), (.int (Int32.ofNat (own_loop 3 (own_loop 3 t3 qn).1 0).2))])) _
  refine st37 _ ?_
  show Steps p.tables e below (T36.setTop (mkF m 158 #[.val (.int p1), .val (.int p2), .val (.int p3), .val (.int p4), .val (.ref o), .val (.ref a23), .val (.int (Int32.ofNat a1n)), .val (.int (Int32.ofNat b1n)), .val (.int (Int32.ofNat a2n)), .val (.int (Int32.ofNat b2n)), .val (.int (Int32.ofNat a3n)), .val (.int (Int32.ofNat b3n)), .val (.int (Int32.ofNat qn)), .val (.int (1 : Int32)), .unset, .unset, .unset, .unset] [(.int (Int32.ofNat ((own_roots t3).getD 0 0))), (.int (Int32.ofNat (own_loop 3 (own_loop 3 t3 qn).1 0).2))])) _
  refine XS.icmpNo X36.here hx rfl (hb hby at_158) rfl (teq eq36).2 ?_
  show Steps p.tables e below (T36.setTop (mkF m 161 #[.val (.int p1), .val (.int p2), .val (.int p3), .val (.int p4), .val (.ref o), .val (.ref a23), .val (.int (Int32.ofNat a1n)), .val (.int (Int32.ofNat b1n)), .val (.int (Int32.ofNat a2n)), .val (.int (Int32.ofNat b2n)), .val (.int (Int32.ofNat a3n)), .val (.int (Int32.ofNat b3n)), .val (.int (Int32.ofNat qn)), .val (.int (1 : Int32)), .unset, .unset, .unset, .unset] [])) _
  refine XS.iconst X36.here hx rfl (hb hby at_161) ?_
  show Steps p.tables e below (T36.setTop (mkF m 162 #[.val (.int p1), .val (.int p2), .val (.int p3), .val (.int p4), .val (.ref o), .val (.ref a23), .val (.int (Int32.ofNat a1n)), .val (.int (Int32.ofNat b1n)), .val (.int (Int32.ofNat a2n)), .val (.int (Int32.ofNat b2n)), .val (.int (Int32.ofNat a3n)), .val (.int (Int32.ofNat b3n)), .val (.int (Int32.ofNat qn)), .val (.int (1 : Int32)), .unset, .unset, .unset, .unset] [(.int (1 : Int32))])) _
  refine XS.goto X36.here hx rfl (pc0 := 162) (pc' := 166) rfl (hb hby at_162) (by decide) (by decide) ?_
  show Steps p.tables e below (T36.setTop (mkF m 166 #[.val (.int p1), .val (.int p2), .val (.int p3), .val (.int p4), .val (.ref o), .val (.ref a23), .val (.int (Int32.ofNat a1n)), .val (.int (Int32.ofNat b1n)), .val (.int (Int32.ofNat a2n)), .val (.int (Int32.ofNat b2n)), .val (.int (Int32.ofNat a3n)), .val (.int (Int32.ofNat b3n)), .val (.int (Int32.ofNat qn)), .val (.int (1 : Int32)), .unset, .unset, .unset, .unset] [(.int (1 : Int32))])) _
  refine XS.istore X36.here hx rfl (hb hby at_166) rfl (l' := #[.val (.int p1), .val (.int p2), .val (.int p3), .val (.int p4), .val (.ref o), .val (.ref a23), .val (.int (Int32.ofNat a1n)), .val (.int (Int32.ofNat b1n)), .val (.int (Int32.ofNat a2n)), .val (.int (Int32.ofNat b2n)), .val (.int (Int32.ofNat a3n)), .val (.int (Int32.ofNat b3n)), .val (.int (Int32.ofNat qn)), .val (.int (1 : Int32)), .val (.int (1 : Int32)), .unset, .unset, .unset]) rfl ?_
  show Steps p.tables e below (T36.setTop (mkF m 168 #[.val (.int p1), .val (.int p2), .val (.int p3), .val (.int p4), .val (.ref o), .val (.ref a23), .val (.int (Int32.ofNat a1n)), .val (.int (Int32.ofNat b1n)), .val (.int (Int32.ofNat a2n)), .val (.int (Int32.ofNat b2n)), .val (.int (Int32.ofNat a3n)), .val (.int (Int32.ofNat b3n)), .val (.int (Int32.ofNat qn)), .val (.int (1 : Int32)), .val (.int (1 : Int32)), .unset, .unset, .unset] [])) _
  refine XS.aload X36.here hx rfl (hb hby at_168) rfl rfl ?_
  show Steps p.tables e below (T36.setTop (mkF m 170 #[.val (.int p1), .val (.int p2), .val (.int p3), .val (.int p4), .val (.ref o), .val (.ref a23), .val (.int (Int32.ofNat a1n)), .val (.int (Int32.ofNat b1n)), .val (.int (Int32.ofNat a2n)), .val (.int (Int32.ofNat b2n)), .val (.int (Int32.ofNat a3n)), .val (.int (Int32.ofNat b3n)), .val (.int (Int32.ofNat qn)), .val (.int (1 : Int32)), .val (.int (1 : Int32)), .unset, .unset, .unset] [(.ref o)])) _
  refine XS.iconst X36.here hx rfl (hb hby at_170) ?_
  show Steps p.tables e below (T36.setTop (mkF m 171 #[.val (.int p1), .val (.int p2), .val (.int p3), .val (.int p4), .val (.ref o), .val (.ref a23), .val (.int (Int32.ofNat a1n)), .val (.int (Int32.ofNat b1n)), .val (.int (Int32.ofNat a2n)), .val (.int (Int32.ofNat b2n)), .val (.int (Int32.ofNat a3n)), .val (.int (Int32.ofNat b3n)), .val (.int (Int32.ofNat qn)), .val (.int (1 : Int32)), .val (.int (1 : Int32)), .unset, .unset, .unset] [(.int (1 : Int32)), (.ref o)])) _
  show Steps p.tables e below (T36.setTop (mkF m 171 #[.val (.int p1), .val (.int p2), .val (.int p3), .val (.int p4), .val (.ref o), .val (.ref a23), .val (.int (Int32.ofNat a1n)), .val (.int (Int32.ofNat b1n)), .val (.int (Int32.ofNat a2n)), .val (.int (Int32.ofNat b2n)), .val (.int (Int32.ofNat a3n)), .val (.int (Int32.ofNat b3n)), .val (.int (Int32.ofNat qn)), .val (.int (1 : Int32)), .val (.int (1 : Int32)), .unset, .unset, .unset] [(.int (Int32.ofNat 1)), (.ref o)])) _
  refine st38.trans ?_
  show Steps p.tables e below (T38.setTop (mkF m 174 #[.val (.int p1), .val (.int p2), .val (.int p3), .val (.int p4), .val (.ref o), .val (.ref a23), .val (.int (Int32.ofNat a1n)), .val (.int (Int32.ofNat b1n)), .val (.int (Int32.ofNat a2n)), .val (.int (Int32.ofNat b2n)), .val (.int (Int32.ofNat a3n)), .val (.int (Int32.ofNat b3n)), .val (.int (Int32.ofNat qn)), .val (.int (1 : Int32)), .val (.int (1 : Int32)), .unset, .unset, .unset] [(.int (Int32.ofNat (own_loop 3 (own_loop 3 (own_loop 3 t3 qn).1 0).1 1).2))])) _
  refine XS.aload X38.here hx rfl (hb hby at_174) rfl rfl ?_
  show Steps p.tables e below (T38.setTop (mkF m 176 #[.val (.int p1), .val (.int p2), .val (.int p3), .val (.int p4), .val (.ref o), .val (.ref a23), .val (.int (Int32.ofNat a1n)), .val (.int (Int32.ofNat b1n)), .val (.int (Int32.ofNat a2n)), .val (.int (Int32.ofNat b2n)), .val (.int (Int32.ofNat a3n)), .val (.int (Int32.ofNat b3n)), .val (.int (Int32.ofNat qn)), .val (.int (1 : Int32)), .val (.int (1 : Int32)), .unset, .unset, .unset] [(.ref a23), (.int (Int32.ofNat (own_loop 3 (own_loop 3 (own_loop 3 t3 qn).1 0).1 1).2))])) _
  refine XS.iconst X38.here hx rfl (hb hby at_176) ?_
  show Steps p.tables e below (T38.setTop (mkF m 177 #[.val (.int p1), .val (.int p2), .val (.int p3), .val (.int p4), .val (.ref o), .val (.ref a23), .val (.int (Int32.ofNat a1n)), .val (.int (Int32.ofNat b1n)), .val (.int (Int32.ofNat a2n)), .val (.int (Int32.ofNat b2n)), .val (.int (Int32.ofNat a3n)), .val (.int (Int32.ofNat b3n)), .val (.int (Int32.ofNat qn)), .val (.int (1 : Int32)), .val (.int (1 : Int32)), .unset, .unset, .unset] [(.int (1 : Int32)), (.ref a23), (.int (Int32.ofNat (own_loop 3 (own_loop 3 (own_loop 3 t3 qn).1 0).1 1).2))])) _
  show Steps p.tables e below (T38.setTop (mkF m 177 #[.val (.int p1), .val (.int p2), .val (.int p3), .val (.int p4), .val (.ref o), .val (.ref a23), .val (.int (Int32.ofNat a1n)), .val (.int (Int32.ofNat b1n)), .val (.int (Int32.ofNat a2n)), .val (.int (Int32.ofNat b2n)), .val (.int (Int32.ofNat a3n)), .val (.int (Int32.ofNat b3n)), .val (.int (Int32.ofNat qn)), .val (.int (1 : Int32)), .val (.int (1 : Int32)), .unset, .unset, .unset] [(.int (Int32.ofNat 1)), (.ref a23), (.int (Int32.ofNat (own_loop 3 (own_loop 3 (own_loop 3 t3 qn).1 0).1 1).2))])) _
  refine st39 _ ?_
  show Steps p.tables e below (T38.setTop (mkF m 178 #[.val (.int p1), .val (.int p2), .val (.int p3), .val (.int p4), .val (.ref o), .val (.ref a23), .val (.int (Int32.ofNat a1n)), .val (.int (Int32.ofNat b1n)), .val (.int (Int32.ofNat a2n)), .val (.int (Int32.ofNat b2n)), .val (.int (Int32.ofNat a3n)), .val (.int (Int32.ofNat b3n)), .val (.int (Int32.ofNat qn)), .val (.int (1 : Int32)), .val (.int (1 : Int32)), .unset, .unset, .unset] [(.int (Int32.ofNat ((own_roots t3).getD 1 0))), (.int (Int32.ofNat (own_loop 3 (own_loop 3 (own_loop 3 t3 qn).1 0).1 1).2))])) _
  refine XS.icmpNo X38.here hx rfl (hb hby at_178) rfl (teq eq38).2 ?_
  show Steps p.tables e below (T38.setTop (mkF m 181 #[.val (.int p1), .val (.int p2), .val (.int p3), .val (.int p4), .val (.ref o), .val (.ref a23), .val (.int (Int32.ofNat a1n)), .val (.int (Int32.ofNat b1n)), .val (.int (Int32.ofNat a2n)), .val (.int (Int32.ofNat b2n)), .val (.int (Int32.ofNat a3n)), .val (.int (Int32.ofNat b3n)), .val (.int (Int32.ofNat qn)), .val (.int (1 : Int32)), .val (.int (1 : Int32)), .unset, .unset, .unset] [])) _
  refine XS.iconst X38.here hx rfl (hb hby at_181) ?_
  show Steps p.tables e below (T38.setTop (mkF m 182 #[.val (.int p1), .val (.int p2), .val (.int p3), .val (.int p4), .val (.ref o), .val (.ref a23), .val (.int (Int32.ofNat a1n)), .val (.int (Int32.ofNat b1n)), .val (.int (Int32.ofNat a2n)), .val (.int (Int32.ofNat b2n)), .val (.int (Int32.ofNat a3n)), .val (.int (Int32.ofNat b3n)), .val (.int (Int32.ofNat qn)), .val (.int (1 : Int32)), .val (.int (1 : Int32)), .unset, .unset, .unset] [(.int (1 : Int32))])) _
  refine XS.goto X38.here hx rfl (pc0 := 182) (pc' := 186) rfl (hb hby at_182) (by decide) (by decide) ?_
  show Steps p.tables e below (T38.setTop (mkF m 186 #[.val (.int p1), .val (.int p2), .val (.int p3), .val (.int p4), .val (.ref o), .val (.ref a23), .val (.int (Int32.ofNat a1n)), .val (.int (Int32.ofNat b1n)), .val (.int (Int32.ofNat a2n)), .val (.int (Int32.ofNat b2n)), .val (.int (Int32.ofNat a3n)), .val (.int (Int32.ofNat b3n)), .val (.int (Int32.ofNat qn)), .val (.int (1 : Int32)), .val (.int (1 : Int32)), .unset, .unset, .unset] [(.int (1 : Int32))])) _
  refine XS.istore X38.here hx rfl (hb hby at_186) rfl (l' := #[.val (.int p1), .val (.int p2), .val (.int p3), .val (.int p4), .val (.ref o), .val (.ref a23), .val (.int (Int32.ofNat a1n)), .val (.int (Int32.ofNat b1n)), .val (.int (Int32.ofNat a2n)), .val (.int (Int32.ofNat b2n)), .val (.int (Int32.ofNat a3n)), .val (.int (Int32.ofNat b3n)), .val (.int (Int32.ofNat qn)), .val (.int (1 : Int32)), .val (.int (1 : Int32)), .val (.int (1 : Int32)), .unset, .unset]) rfl ?_
  show Steps p.tables e below (T38.setTop (mkF m 188 #[.val (.int p1), .val (.int p2), .val (.int p3), .val (.int p4), .val (.ref o), .val (.ref a23), .val (.int (Int32.ofNat a1n)), .val (.int (Int32.ofNat b1n)), .val (.int (Int32.ofNat a2n)), .val (.int (Int32.ofNat b2n)), .val (.int (Int32.ofNat a3n)), .val (.int (Int32.ofNat b3n)), .val (.int (Int32.ofNat qn)), .val (.int (1 : Int32)), .val (.int (1 : Int32)), .val (.int (1 : Int32)), .unset, .unset] [])) _
  refine XS.aload X38.here hx rfl (hb hby at_188) rfl rfl ?_
  show Steps p.tables e below (T38.setTop (mkF m 190 #[.val (.int p1), .val (.int p2), .val (.int p3), .val (.int p4), .val (.ref o), .val (.ref a23), .val (.int (Int32.ofNat a1n)), .val (.int (Int32.ofNat b1n)), .val (.int (Int32.ofNat a2n)), .val (.int (Int32.ofNat b2n)), .val (.int (Int32.ofNat a3n)), .val (.int (Int32.ofNat b3n)), .val (.int (Int32.ofNat qn)), .val (.int (1 : Int32)), .val (.int (1 : Int32)), .val (.int (1 : Int32)), .unset, .unset] [(.ref o)])) _
  refine XS.iconst X38.here hx rfl (hb hby at_190) ?_
  show Steps p.tables e below (T38.setTop (mkF m 191 #[.val (.int p1), .val (.int p2), .val (.int p3), .val (.int p4), .val (.ref o), .val (.ref a23), .val (.int (Int32.ofNat a1n)), .val (.int (Int32.ofNat b1n)), .val (.int (Int32.ofNat a2n)), .val (.int (Int32.ofNat b2n)), .val (.int (Int32.ofNat a3n)), .val (.int (Int32.ofNat b3n)), .val (.int (Int32.ofNat qn)), .val (.int (1 : Int32)), .val (.int (1 : Int32)), .val (.int (1 : Int32)), .unset, .unset] [(.int (2 : Int32)), (.ref o)])) _
  show Steps p.tables e below (T38.setTop (mkF m 191 #[.val (.int p1), .val (.int p2), .val (.int p3), .val (.int p4), .val (.ref o), .val (.ref a23), .val (.int (Int32.ofNat a1n)), .val (.int (Int32.ofNat b1n)), .val (.int (Int32.ofNat a2n)), .val (.int (Int32.ofNat b2n)), .val (.int (Int32.ofNat a3n)), .val (.int (Int32.ofNat b3n)), .val (.int (Int32.ofNat qn)), .val (.int (1 : Int32)), .val (.int (1 : Int32)), .val (.int (1 : Int32)), .unset, .unset] [(.int (Int32.ofNat 2)), (.ref o)])) _
  refine st40.trans ?_
  show Steps p.tables e below (T40.setTop (mkF m 194 #[.val (.int p1), .val (.int p2), .val (.int p3), .val (.int p4), .val (.ref o), .val (.ref a23), .val (.int (Int32.ofNat a1n)), .val (.int (Int32.ofNat b1n)), .val (.int (Int32.ofNat a2n)), .val (.int (Int32.ofNat b2n)), .val (.int (Int32.ofNat a3n)), .val (.int (Int32.ofNat b3n)), .val (.int (Int32.ofNat qn)), .val (.int (1 : Int32)), .val (.int (1 : Int32)), .val (.int (1 : Int32)), .unset, .unset] [(.int (Int32.ofNat (own_loop 3 (own_loop 3 (own_loop 3 (own_loop 3 t3 qn).1 0).1 1).1 2).2))])) _
  refine XS.aload X40.here hx rfl (hb hby at_194) rfl rfl ?_
  show Steps p.tables e below (T40.setTop (mkF m 196 #[.val (.int p1), .val (.int p2), .val (.int p3), .val (.int p4), .val (.ref o), .val (.ref a23), .val (.int (Int32.ofNat a1n)), .val (.int (Int32.ofNat b1n)), .val (.int (Int32.ofNat a2n)), .val (.int (Int32.ofNat b2n)), .val (.int (Int32.ofNat a3n)), .val (.int (Int32.ofNat b3n)), .val (.int (Int32.ofNat qn)), .val (.int (1 : Int32)), .val (.int (1 : Int32)), .val (.int (1 : Int32)), .unset, .unset] [(.ref a23), (.int (Int32.ofNat (own_loop 3 (own_loop 3 (own_loop 3 (own_loop 3 t3 qn).1 0).1 1).1 2).2))])) _
  refine XS.iconst X40.here hx rfl (hb hby at_196) ?_
  show Steps p.tables e below (T40.setTop (mkF m 197 #[.val (.int p1), .val (.int p2), .val (.int p3), .val (.int p4), .val (.ref o), .val (.ref a23), .val (.int (Int32.ofNat a1n)), .val (.int (Int32.ofNat b1n)), .val (.int (Int32.ofNat a2n)), .val (.int (Int32.ofNat b2n)), .val (.int (Int32.ofNat a3n)), .val (.int (Int32.ofNat b3n)), .val (.int (Int32.ofNat qn)), .val (.int (1 : Int32)), .val (.int (1 : Int32)), .val (.int (1 : Int32)), .unset, .unset] [(.int (2 : Int32)), (.ref a23), (.int (Int32.ofNat (own_loop 3 (own_loop 3 (own_loop 3 (own_loop 3 t3 qn).1 0).1 1).1 2).2))])) _
  show Steps p.tables e below (T40.setTop (mkF m 197 #[.val (.int p1), .val (.int p2), .val (.int p3), .val (.int p4), .val (.ref o), .val (.ref a23), .val (.int (Int32.ofNat a1n)), .val (.int (Int32.ofNat b1n)), .val (.int (Int32.ofNat a2n)), .val (.int (Int32.ofNat b2n)), .val (.int (Int32.ofNat a3n)), .val (.int (Int32.ofNat b3n)), .val (.int (Int32.ofNat qn)), .val (.int (1 : Int32)), .val (.int (1 : Int32)), .val (.int (1 : Int32)), .unset, .unset] [(.int (Int32.ofNat 2)), (.ref a23), (.int (Int32.ofNat (own_loop 3 (own_loop 3 (own_loop 3 (own_loop 3 t3 qn).1 0).1 1).1 2).2))])) _
  refine st41 _ ?_
  show Steps p.tables e below (T40.setTop (mkF m 198 #[.val (.int p1), .val (.int p2), .val (.int p3), .val (.int p4), .val (.ref o), .val (.ref a23), .val (.int (Int32.ofNat a1n)), .val (.int (Int32.ofNat b1n)), .val (.int (Int32.ofNat a2n)), .val (.int (Int32.ofNat b2n)), .val (.int (Int32.ofNat a3n)), .val (.int (Int32.ofNat b3n)), .val (.int (Int32.ofNat qn)), .val (.int (1 : Int32)), .val (.int (1 : Int32)), .val (.int (1 : Int32)), .unset, .unset] [(.int (Int32.ofNat ((own_roots t3).getD 2 0))), (.int (Int32.ofNat (own_loop 3 (own_loop 3 (own_loop 3 (own_loop 3 t3 qn).1 0).1 1).1 2).2))])) _
  refine XS.icmpNo X40.here hx rfl (hb hby at_198) rfl (teq eq40).2 ?_
  show Steps p.tables e below (T40.setTop (mkF m 201 #[.val (.int p1), .val (.int p2), .val (.int p3), .val (.int p4), .val (.ref o), .val (.ref a23), .val (.int (Int32.ofNat a1n)), .val (.int (Int32.ofNat b1n)), .val (.int (Int32.ofNat a2n)), .val (.int (Int32.ofNat b2n)), .val (.int (Int32.ofNat a3n)), .val (.int (Int32.ofNat b3n)), .val (.int (Int32.ofNat qn)), .val (.int (1 : Int32)), .val (.int (1 : Int32)), .val (.int (1 : Int32)), .unset, .unset] [])) _
  refine XS.iconst X40.here hx rfl (hb hby at_201) ?_
  show Steps p.tables e below (T40.setTop (mkF m 202 #[.val (.int p1), .val (.int p2), .val (.int p3), .val (.int p4), .val (.ref o), .val (.ref a23), .val (.int (Int32.ofNat a1n)), .val (.int (Int32.ofNat b1n)), .val (.int (Int32.ofNat a2n)), .val (.int (Int32.ofNat b2n)), .val (.int (Int32.ofNat a3n)), .val (.int (Int32.ofNat b3n)), .val (.int (Int32.ofNat qn)), .val (.int (1 : Int32)), .val (.int (1 : Int32)), .val (.int (1 : Int32)), .unset, .unset] [(.int (1 : Int32))])) _
  refine XS.goto X40.here hx rfl (pc0 := 202) (pc' := 206) rfl (hb hby at_202) (by decide) (by decide) ?_
  show Steps p.tables e below (T40.setTop (mkF m 206 #[.val (.int p1), .val (.int p2), .val (.int p3), .val (.int p4), .val (.ref o), .val (.ref a23), .val (.int (Int32.ofNat a1n)), .val (.int (Int32.ofNat b1n)), .val (.int (Int32.ofNat a2n)), .val (.int (Int32.ofNat b2n)), .val (.int (Int32.ofNat a3n)), .val (.int (Int32.ofNat b3n)), .val (.int (Int32.ofNat qn)), .val (.int (1 : Int32)), .val (.int (1 : Int32)), .val (.int (1 : Int32)), .unset, .unset] [(.int (1 : Int32))])) _
  refine XS.istore X40.here hx rfl (hb hby at_206) rfl (l' := #[.val (.int p1), .val (.int p2), .val (.int p3), .val (.int p4), .val (.ref o), .val (.ref a23), .val (.int (Int32.ofNat a1n)), .val (.int (Int32.ofNat b1n)), .val (.int (Int32.ofNat a2n)), .val (.int (Int32.ofNat b2n)), .val (.int (Int32.ofNat a3n)), .val (.int (Int32.ofNat b3n)), .val (.int (Int32.ofNat qn)), .val (.int (1 : Int32)), .val (.int (1 : Int32)), .val (.int (1 : Int32)), .val (.int (1 : Int32)), .unset]) rfl ?_
  show Steps p.tables e below (T40.setTop (mkF m 208 #[.val (.int p1), .val (.int p2), .val (.int p3), .val (.int p4), .val (.ref o), .val (.ref a23), .val (.int (Int32.ofNat a1n)), .val (.int (Int32.ofNat b1n)), .val (.int (Int32.ofNat a2n)), .val (.int (Int32.ofNat b2n)), .val (.int (Int32.ofNat a3n)), .val (.int (Int32.ofNat b3n)), .val (.int (Int32.ofNat qn)), .val (.int (1 : Int32)), .val (.int (1 : Int32)), .val (.int (1 : Int32)), .val (.int (1 : Int32)), .unset] [])) _
  refine XS.aload X40.here hx rfl (hb hby at_208) rfl rfl ?_
  show Steps p.tables e below (T40.setTop (mkF m 210 #[.val (.int p1), .val (.int p2), .val (.int p3), .val (.int p4), .val (.ref o), .val (.ref a23), .val (.int (Int32.ofNat a1n)), .val (.int (Int32.ofNat b1n)), .val (.int (Int32.ofNat a2n)), .val (.int (Int32.ofNat b2n)), .val (.int (Int32.ofNat a3n)), .val (.int (Int32.ofNat b3n)), .val (.int (Int32.ofNat qn)), .val (.int (1 : Int32)), .val (.int (1 : Int32)), .val (.int (1 : Int32)), .val (.int (1 : Int32)), .unset] [(.ref o)])) _
  refine XS.iconst X40.here hx rfl (hb hby at_210) ?_
  show Steps p.tables e below (T40.setTop (mkF m 211 #[.val (.int p1), .val (.int p2), .val (.int p3), .val (.int p4), .val (.ref o), .val (.ref a23), .val (.int (Int32.ofNat a1n)), .val (.int (Int32.ofNat b1n)), .val (.int (Int32.ofNat a2n)), .val (.int (Int32.ofNat b2n)), .val (.int (Int32.ofNat a3n)), .val (.int (Int32.ofNat b3n)), .val (.int (Int32.ofNat qn)), .val (.int (1 : Int32)), .val (.int (1 : Int32)), .val (.int (1 : Int32)), .val (.int (1 : Int32)), .unset] [(.int (3 : Int32)), (.ref o)])) _
  show Steps p.tables e below (T40.setTop (mkF m 211 #[.val (.int p1), .val (.int p2), .val (.int p3), .val (.int p4), .val (.ref o), .val (.ref a23), .val (.int (Int32.ofNat a1n)), .val (.int (Int32.ofNat b1n)), .val (.int (Int32.ofNat a2n)), .val (.int (Int32.ofNat b2n)), .val (.int (Int32.ofNat a3n)), .val (.int (Int32.ofNat b3n)), .val (.int (Int32.ofNat qn)), .val (.int (1 : Int32)), .val (.int (1 : Int32)), .val (.int (1 : Int32)), .val (.int (1 : Int32)), .unset] [(.int (Int32.ofNat 3)), (.ref o)])) _
  refine st42.trans ?_
  show Steps p.tables e below (T42.setTop (mkF m 214 #[.val (.int p1), .val (.int p2), .val (.int p3), .val (.int p4), .val (.ref o), .val (.ref a23), .val (.int (Int32.ofNat a1n)), .val (.int (Int32.ofNat b1n)), .val (.int (Int32.ofNat a2n)), .val (.int (Int32.ofNat b2n)), .val (.int (Int32.ofNat a3n)), .val (.int (Int32.ofNat b3n)), .val (.int (Int32.ofNat qn)), .val (.int (1 : Int32)), .val (.int (1 : Int32)), .val (.int (1 : Int32)), .val (.int (1 : Int32)), .unset] [(.int (Int32.ofNat (own_loop 3 (own_loop 3 (own_loop 3 (own_loop 3 (own_loop 3 t3 qn).1 0).1 1).1 2).1 3).2))])) _
  refine XS.aload X42.here hx rfl (hb hby at_214) rfl rfl ?_
  show Steps p.tables e below (T42.setTop (mkF m 216 #[.val (.int p1), .val (.int p2), .val (.int p3), .val (.int p4), .val (.ref o), .val (.ref a23), .val (.int (Int32.ofNat a1n)), .val (.int (Int32.ofNat b1n)), .val (.int (Int32.ofNat a2n)), .val (.int (Int32.ofNat b2n)), .val (.int (Int32.ofNat a3n)), .val (.int (Int32.ofNat b3n)), .val (.int (Int32.ofNat qn)), .val (.int (1 : Int32)), .val (.int (1 : Int32)), .val (.int (1 : Int32)), .val (.int (1 : Int32)), .unset] [(.ref a23), (.int (Int32.ofNat (own_loop 3 (own_loop 3 (own_loop 3 (own_loop 3 (own_loop 3 t3 qn).1 0).1 1).1 2).1 3).2))])) _
  refine XS.iconst X42.here hx rfl (hb hby at_216) ?_
  show Steps p.tables e below (T42.setTop (mkF m 217 #[.val (.int p1), .val (.int p2), .val (.int p3), .val (.int p4), .val (.ref o), .val (.ref a23), .val (.int (Int32.ofNat a1n)), .val (.int (Int32.ofNat b1n)), .val (.int (Int32.ofNat a2n)), .val (.int (Int32.ofNat b2n)), .val (.int (Int32.ofNat a3n)), .val (.int (Int32.ofNat b3n)), .val (.int (Int32.ofNat qn)), .val (.int (1 : Int32)), .val (.int (1 : Int32)), .val (.int (1 : Int32)), .val (.int (1 : Int32)), .unset] [(.int (3 : Int32)), (.ref a23), (.int (Int32.ofNat (own_loop 3 (own_loop 3 (own_loop 3 (own_loop 3 (own_loop 3 t3 qn).1 0).1 1).1 2).1 3).2))])) _
  show Steps p.tables e below (T42.setTop (mkF m 217 #[.val (.int p1), .val (.int p2), .val (.int p3), .val (.int p4), .val (.ref o), .val (.ref a23), .val (.int (Int32.ofNat a1n)), .val (.int (Int32.ofNat b1n)), .val (.int (Int32.ofNat a2n)), .val (.int (Int32.ofNat b2n)), .val (.int (Int32.ofNat a3n)), .val (.int (Int32.ofNat b3n)), .val (.int (Int32.ofNat qn)), .val (.int (1 : Int32)), .val (.int (1 : Int32)), .val (.int (1 : Int32)), .val (.int (1 : Int32)), .unset] [(.int (Int32.ofNat 3)), (.ref a23), (.int (Int32.ofNat (own_loop 3 (own_loop 3 (own_loop 3 (own_loop 3 (own_loop 3 t3 qn).1 0).1 1).1 2).1 3).2))])) _
  refine st43 _ ?_
  show Steps p.tables e below (T42.setTop (mkF m 218 #[.val (.int p1), .val (.int p2), .val (.int p3), .val (.int p4), .val (.ref o), .val (.ref a23), .val (.int (Int32.ofNat a1n)), .val (.int (Int32.ofNat b1n)), .val (.int (Int32.ofNat a2n)), .val (.int (Int32.ofNat b2n)), .val (.int (Int32.ofNat a3n)), .val (.int (Int32.ofNat b3n)), .val (.int (Int32.ofNat qn)), .val (.int (1 : Int32)), .val (.int (1 : Int32)), .val (.int (1 : Int32)), .val (.int (1 : Int32)), .unset] [(.int (Int32.ofNat ((own_roots t3).getD 3 0))), (.int (Int32.ofNat (own_loop 3 (own_loop 3 (own_loop 3 (own_loop 3 (own_loop 3 t3 qn).1 0).1 1).1 2).1 3).2))])) _
  refine XS.icmpNo X42.here hx rfl (hb hby at_218) rfl (teq eq42).2 ?_
  show Steps p.tables e below (T42.setTop (mkF m 221 #[.val (.int p1), .val (.int p2), .val (.int p3), .val (.int p4), .val (.ref o), .val (.ref a23), .val (.int (Int32.ofNat a1n)), .val (.int (Int32.ofNat b1n)), .val (.int (Int32.ofNat a2n)), .val (.int (Int32.ofNat b2n)), .val (.int (Int32.ofNat a3n)), .val (.int (Int32.ofNat b3n)), .val (.int (Int32.ofNat qn)), .val (.int (1 : Int32)), .val (.int (1 : Int32)), .val (.int (1 : Int32)), .val (.int (1 : Int32)), .unset] [])) _
  refine XS.iconst X42.here hx rfl (hb hby at_221) ?_
  show Steps p.tables e below (T42.setTop (mkF m 222 #[.val (.int p1), .val (.int p2), .val (.int p3), .val (.int p4), .val (.ref o), .val (.ref a23), .val (.int (Int32.ofNat a1n)), .val (.int (Int32.ofNat b1n)), .val (.int (Int32.ofNat a2n)), .val (.int (Int32.ofNat b2n)), .val (.int (Int32.ofNat a3n)), .val (.int (Int32.ofNat b3n)), .val (.int (Int32.ofNat qn)), .val (.int (1 : Int32)), .val (.int (1 : Int32)), .val (.int (1 : Int32)), .val (.int (1 : Int32)), .unset] [(.int (1 : Int32))])) _
  refine XS.goto X42.here hx rfl (pc0 := 222) (pc' := 226) rfl (hb hby at_222) (by decide) (by decide) ?_
  show Steps p.tables e below (T42.setTop (mkF m 226 #[.val (.int p1), .val (.int p2), .val (.int p3), .val (.int p4), .val (.ref o), .val (.ref a23), .val (.int (Int32.ofNat a1n)), .val (.int (Int32.ofNat b1n)), .val (.int (Int32.ofNat a2n)), .val (.int (Int32.ofNat b2n)), .val (.int (Int32.ofNat a3n)), .val (.int (Int32.ofNat b3n)), .val (.int (Int32.ofNat qn)), .val (.int (1 : Int32)), .val (.int (1 : Int32)), .val (.int (1 : Int32)), .val (.int (1 : Int32)), .unset] [(.int (1 : Int32))])) _
  refine XS.istore X42.here hx rfl (hb hby at_226) rfl (l' := #[.val (.int p1), .val (.int p2), .val (.int p3), .val (.int p4), .val (.ref o), .val (.ref a23), .val (.int (Int32.ofNat a1n)), .val (.int (Int32.ofNat b1n)), .val (.int (Int32.ofNat a2n)), .val (.int (Int32.ofNat b2n)), .val (.int (Int32.ofNat a3n)), .val (.int (Int32.ofNat b3n)), .val (.int (Int32.ofNat qn)), .val (.int (1 : Int32)), .val (.int (1 : Int32)), .val (.int (1 : Int32)), .val (.int (1 : Int32)), .val (.int (1 : Int32))]) rfl ?_
  show Steps p.tables e below (T42.setTop (mkF m 228 #[.val (.int p1), .val (.int p2), .val (.int p3), .val (.int p4), .val (.ref o), .val (.ref a23), .val (.int (Int32.ofNat a1n)), .val (.int (Int32.ofNat b1n)), .val (.int (Int32.ofNat a2n)), .val (.int (Int32.ofNat b2n)), .val (.int (Int32.ofNat a3n)), .val (.int (Int32.ofNat b3n)), .val (.int (Int32.ofNat qn)), .val (.int (1 : Int32)), .val (.int (1 : Int32)), .val (.int (1 : Int32)), .val (.int (1 : Int32)), .val (.int (1 : Int32))] [])) _
  refine XS.iload X42.here hx rfl (hb hby at_228) rfl ?_
  show Steps p.tables e below (T42.setTop (mkF m 230 #[.val (.int p1), .val (.int p2), .val (.int p3), .val (.int p4), .val (.ref o), .val (.ref a23), .val (.int (Int32.ofNat a1n)), .val (.int (Int32.ofNat b1n)), .val (.int (Int32.ofNat a2n)), .val (.int (Int32.ofNat b2n)), .val (.int (Int32.ofNat a3n)), .val (.int (Int32.ofNat b3n)), .val (.int (Int32.ofNat qn)), .val (.int (1 : Int32)), .val (.int (1 : Int32)), .val (.int (1 : Int32)), .val (.int (1 : Int32)), .val (.int (1 : Int32))] [(.int (1 : Int32))])) _
  refine XS.ifNo X42.here hx rfl (hb hby at_230) rfl ((if0 _ _).trans (feq (show ¬ (1 : Int32) = (0 : Int32) by decide)).1) ?_
  show Steps p.tables e below (T42.setTop (mkF m 233 #[.val (.int p1), .val (.int p2), .val (.int p3), .val (.int p4), .val (.ref o), .val (.ref a23), .val (.int (Int32.ofNat a1n)), .val (.int (Int32.ofNat b1n)), .val (.int (Int32.ofNat a2n)), .val (.int (Int32.ofNat b2n)), .val (.int (Int32.ofNat a3n)), .val (.int (Int32.ofNat b3n)), .val (.int (Int32.ofNat qn)), .val (.int (1 : Int32)), .val (.int (1 : Int32)), .val (.int (1 : Int32)), .val (.int (1 : Int32)), .val (.int (1 : Int32))] [])) _
  refine XS.iload X42.here hx rfl (hb hby at_233) rfl ?_
  show Steps p.tables e below (T42.setTop (mkF m 235 #[.val (.int p1), .val (.int p2), .val (.int p3), .val (.int p4), .val (.ref o), .val (.ref a23), .val (.int (Int32.ofNat a1n)), .val (.int (Int32.ofNat b1n)), .val (.int (Int32.ofNat a2n)), .val (.int (Int32.ofNat b2n)), .val (.int (Int32.ofNat a3n)), .val (.int (Int32.ofNat b3n)), .val (.int (Int32.ofNat qn)), .val (.int (1 : Int32)), .val (.int (1 : Int32)), .val (.int (1 : Int32)), .val (.int (1 : Int32)), .val (.int (1 : Int32))] [(.int (1 : Int32))])) _
  refine XS.ifNo X42.here hx rfl (hb hby at_235) rfl ((if0 _ _).trans (feq (show ¬ (1 : Int32) = (0 : Int32) by decide)).1) ?_
  show Steps p.tables e below (T42.setTop (mkF m 238 #[.val (.int p1), .val (.int p2), .val (.int p3), .val (.int p4), .val (.ref o), .val (.ref a23), .val (.int (Int32.ofNat a1n)), .val (.int (Int32.ofNat b1n)), .val (.int (Int32.ofNat a2n)), .val (.int (Int32.ofNat b2n)), .val (.int (Int32.ofNat a3n)), .val (.int (Int32.ofNat b3n)), .val (.int (Int32.ofNat qn)), .val (.int (1 : Int32)), .val (.int (1 : Int32)), .val (.int (1 : Int32)), .val (.int (1 : Int32)), .val (.int (1 : Int32))] [])) _
  refine XS.iload X42.here hx rfl (hb hby at_238) rfl ?_
  show Steps p.tables e below (T42.setTop (mkF m 240 #[.val (.int p1), .val (.int p2), .val (.int p3), .val (.int p4), .val (.ref o), .val (.ref a23), .val (.int (Int32.ofNat a1n)), .val (.int (Int32.ofNat b1n)), .val (.int (Int32.ofNat a2n)), .val (.int (Int32.ofNat b2n)), .val (.int (Int32.ofNat a3n)), .val (.int (Int32.ofNat b3n)), .val (.int (Int32.ofNat qn)), .val (.int (1 : Int32)), .val (.int (1 : Int32)), .val (.int (1 : Int32)), .val (.int (1 : Int32)), .val (.int (1 : Int32))] [(.int (1 : Int32))])) _
  refine XS.ifNo X42.here hx rfl (hb hby at_240) rfl ((if0 _ _).trans (feq (show ¬ (1 : Int32) = (0 : Int32) by decide)).1) ?_
  show Steps p.tables e below (T42.setTop (mkF m 243 #[.val (.int p1), .val (.int p2), .val (.int p3), .val (.int p4), .val (.ref o), .val (.ref a23), .val (.int (Int32.ofNat a1n)), .val (.int (Int32.ofNat b1n)), .val (.int (Int32.ofNat a2n)), .val (.int (Int32.ofNat b2n)), .val (.int (Int32.ofNat a3n)), .val (.int (Int32.ofNat b3n)), .val (.int (Int32.ofNat qn)), .val (.int (1 : Int32)), .val (.int (1 : Int32)), .val (.int (1 : Int32)), .val (.int (1 : Int32)), .val (.int (1 : Int32))] [])) _
  refine XS.iload X42.here hx rfl (hb hby at_243) rfl ?_
  show Steps p.tables e below (T42.setTop (mkF m 245 #[.val (.int p1), .val (.int p2), .val (.int p3), .val (.int p4), .val (.ref o), .val (.ref a23), .val (.int (Int32.ofNat a1n)), .val (.int (Int32.ofNat b1n)), .val (.int (Int32.ofNat a2n)), .val (.int (Int32.ofNat b2n)), .val (.int (Int32.ofNat a3n)), .val (.int (Int32.ofNat b3n)), .val (.int (Int32.ofNat qn)), .val (.int (1 : Int32)), .val (.int (1 : Int32)), .val (.int (1 : Int32)), .val (.int (1 : Int32)), .val (.int (1 : Int32))] [(.int (1 : Int32))])) _
  refine XS.ifNo X42.here hx rfl (hb hby at_245) rfl ((if0 _ _).trans (feq (show ¬ (1 : Int32) = (0 : Int32) by decide)).1) ?_
  show Steps p.tables e below (T42.setTop (mkF m 248 #[.val (.int p1), .val (.int p2), .val (.int p3), .val (.int p4), .val (.ref o), .val (.ref a23), .val (.int (Int32.ofNat a1n)), .val (.int (Int32.ofNat b1n)), .val (.int (Int32.ofNat a2n)), .val (.int (Int32.ofNat b2n)), .val (.int (Int32.ofNat a3n)), .val (.int (Int32.ofNat b3n)), .val (.int (Int32.ofNat qn)), .val (.int (1 : Int32)), .val (.int (1 : Int32)), .val (.int (1 : Int32)), .val (.int (1 : Int32)), .val (.int (1 : Int32))] [])) _
  refine XS.iload X42.here hx rfl (hb hby at_248) rfl ?_
  show Steps p.tables e below (T42.setTop (mkF m 250 #[.val (.int p1), .val (.int p2), .val (.int p3), .val (.int p4), .val (.ref o), .val (.ref a23), .val (.int (Int32.ofNat a1n)), .val (.int (Int32.ofNat b1n)), .val (.int (Int32.ofNat a2n)), .val (.int (Int32.ofNat b2n)), .val (.int (Int32.ofNat a3n)), .val (.int (Int32.ofNat b3n)), .val (.int (Int32.ofNat qn)), .val (.int (1 : Int32)), .val (.int (1 : Int32)), .val (.int (1 : Int32)), .val (.int (1 : Int32)), .val (.int (1 : Int32))] [(.int (1 : Int32))])) _
  refine XS.ifNo X42.here hx rfl (hb hby at_250) rfl ((if0 _ _).trans (feq (show ¬ (1 : Int32) = (0 : Int32) by decide)).1) ?_
  show Steps p.tables e below (T42.setTop (mkF m 253 #[.val (.int p1), .val (.int p2), .val (.int p3), .val (.int p4), .val (.ref o), .val (.ref a23), .val (.int (Int32.ofNat a1n)), .val (.int (Int32.ofNat b1n)), .val (.int (Int32.ofNat a2n)), .val (.int (Int32.ofNat b2n)), .val (.int (Int32.ofNat a3n)), .val (.int (Int32.ofNat b3n)), .val (.int (Int32.ofNat qn)), .val (.int (1 : Int32)), .val (.int (1 : Int32)), .val (.int (1 : Int32)), .val (.int (1 : Int32)), .val (.int (1 : Int32))] [])) _
  refine XS.iconst X42.here hx rfl (hb hby at_253) ?_
  show Steps p.tables e below (T42.setTop (mkF m 254 #[.val (.int p1), .val (.int p2), .val (.int p3), .val (.int p4), .val (.ref o), .val (.ref a23), .val (.int (Int32.ofNat a1n)), .val (.int (Int32.ofNat b1n)), .val (.int (Int32.ofNat a2n)), .val (.int (Int32.ofNat b2n)), .val (.int (Int32.ofNat a3n)), .val (.int (Int32.ofNat b3n)), .val (.int (Int32.ofNat qn)), .val (.int (1 : Int32)), .val (.int (1 : Int32)), .val (.int (1 : Int32)), .val (.int (1 : Int32)), .val (.int (1 : Int32))] [(.int (1 : Int32))])) _
  refine XS.goto X42.here hx rfl (pc0 := 254) (pc' := 258) rfl (hb hby at_254) (by decide) (by decide) ?_
  show Steps p.tables e below (T42.setTop (mkF m 258 #[.val (.int p1), .val (.int p2), .val (.int p3), .val (.int p4), .val (.ref o), .val (.ref a23), .val (.int (Int32.ofNat a1n)), .val (.int (Int32.ofNat b1n)), .val (.int (Int32.ofNat a2n)), .val (.int (Int32.ofNat b2n)), .val (.int (Int32.ofNat a3n)), .val (.int (Int32.ofNat b3n)), .val (.int (Int32.ofNat qn)), .val (.int (1 : Int32)), .val (.int (1 : Int32)), .val (.int (1 : Int32)), .val (.int (1 : Int32)), .val (.int (1 : Int32))] [(.int (1 : Int32))])) _
  exact retN X42 hx (t := .boolean) hret (by simp) (hb hby at_258) hr
set_option maxRecDepth 65536 in
set_option maxHeartbeats 40000000 in
theorem comes_1 {Post : Tables → Env → Array Value → State → Outcome → State → Prop} (hpost : ∀ tb e args s v u, (limb_1_1.after args s (.returned v) u = true ∧ limb_1_2.after args s (.returned v) u = true ∧ True) → FrameEnd s (.returned v) u (Jvm.fieldLocs frame_1_writes args s ++ Jvm.arrayLocs frame_1_arrays args s ++ Jvm.staticLocs frame_1_statics s) 16 128 → Post tb e args s (.returned v) u) :
    ArmFor flags0 classFile x code maxLocals ret World_1 tables_1 room_1 Calls_1 rest_1 Pre_1 Post := by
  intro l hfl _ _ p e ha hc hk s m args below hf hA hF happ hP
  obtain ⟨hcalls, hrest, hpre⟩ := hP
  obtain ⟨-, -, -, hnamed, -, -, -, hat⟩ := (Spec.applies_iff hf).mp happ
  obtain ⟨hg, hn⟩ := and_e (Cond.before_iff.mp (show (Jvm.Cond.and given_1 narrow_1).before args s = true from hpre))
  obtain ⟨gc, g0⟩ := and_e hg
  obtain ⟨ga0, g1⟩ := and_e g0
  obtain ⟨ga1, g2⟩ := and_e g1
  obtain ⟨ga2, g3⟩ := and_e g2
  obtain ⟨w0, w1, w2, w3, rfl⟩ : ∃ w0 w1 w2 w3 : Value, args = #[w0, w1, w2, w3] := by
    have hs : args.size = 4 := by simpa [Cond.value, given_1] using gc
    obtain ⟨L⟩ := args
    match L, hs with
    | [w0, w1, w2, w3], _ => exact ⟨w0, w1, w2, w3, rfl⟩
  have hw := fun d (hd : d ∈ tables_1) => atoms_spec (ws := Jvm.Cond.code x code maxLocals ret :: tables_1) hat d (List.mem_cons_of_mem _ hd)
  obtain ⟨i0, ei0⟩ := is_v ga0
  obtain rfl : w0 = (.int i0) := Option.some.inj ei0
  obtain ⟨i1, ei1⟩ := is_v ga1
  obtain rfl : w1 = (.int i1) := Option.some.inj ei1
  obtain ⟨i2, ei2⟩ := is_v ga2
  obtain rfl : w2 = (.int i2) := Option.some.inj ei2
  obtain ⟨i3, ei3⟩ := is_v g3
  obtain rfl : w3 = (.int i3) := Option.some.inj ei3
  obtain ⟨n, o, h1, h2, h3, _, L, rfl, ⟨rfl, N⟩, hq⟩ := rm0 l s _ hw tables_1 i0 i1 i2 i3 s.heap s.heap.size (Nat.le_refl _) p e ha hc hk s m _ below hf ((Spec.applies_iff_loose hf).mp happ).1 ⟨rfl, State.Warmed39.refl s, rfl⟩ trivial
  refine ⟨n, _, h1, h2, h3, hpost _ _ _ _ _ _ ⟨Cond.after_iff.mpr rfl, Cond.after_iff.mpr (eq_i res_at (Term.int_eval (1)) rfl), trivial⟩ ⟨hq.1, hq.2.1, (hq.2.2.sift fun y hy => Or.inr (N y hy)).mono (by decide) (by decide)⟩⟩
theorem main_1_1 : Claimed_1_1 := comes_1 fun _ _ _ _ _ _ h hF => ⟨h.1, hF⟩
theorem main_1_2 : Claimed_1_2 := comes_1 fun _ _ _ _ _ _ h hF => ⟨h.2.1, hF⟩
end Jvm.Pilot.@@N@@
namespace Jvm.Pilot.@@N@@
open Jvm Jvm.ClassFile Sem Op Lib Jvm.Free Jvm.Stand Jvm.Pilot.@@N@@.Jvm.D
/-! MADE BY PROGRAM (witnessworld.py) out of the Statement's table words and the real class files: 10 classes; the members and pool entries that the words name. The judged class is class 1, her method 2. -/
namespace start1
open Jvm.ClassFile
def u (s : String) : CpInfo := .utf8 (stringToUtf16 s)
/-- a pool by its gaps: so many unusable entries, then the entry; so many at the end -/
def gap : Nat → List CpInfo → List CpInfo
  | 0, r => r
  | n + 1, r => .unusable :: gap n r
def poolList (es : List (Nat × CpInfo)) (last : Nat) : List CpInfo := es.foldr (fun e r => gap e.1 (e.2 :: r)) (gap last [])
def pool (es : List (Nat × CpInfo)) (last : Nat) : Array CpInfo := ⟨poolList es last⟩
def fileOf (pool : Array CpInfo) (this : Nat) (attrs : Array Attribute := #[]) (ms : Array MethodInfo := #[]) (fl : Nat := 33) (sup : Nat := 0) (ifs : Array Nat := #[]) (fds : Array FieldInfo := #[]) : ClassFile where
  minorVersion := 0
  majorVersion := 65
  constantPool := pool
  accessFlags := fl
  thisClass := this
  superClass := sup
  interfaces := ifs
  fields := fds
  methods := ms
  attributes := attrs
def plain (name : String) (sup : Option ClassId) : Class where
  name := name
  kind := .ordinary
  loader := none
  accessFlags := 33
  super := sup
  interfaces := #[]
  cf := none
  fields := #[]
  methods := #[]
  instanceTypes := #[]
  staticTypes := #[]
  resolved := #[]
  callSites := []
  init := .initialized
  statics := none
  mirror := none

def pool0 : Array CpInfo := pool [(5, u "<init>"), (0, u "()V"), (1, .class_ 10), (1, u "java/lang/Object")] 113

def k0c0 : Code := { maxStack := 0, maxLocals := 1, code := object_method_1_code, exceptionTable := #[], attributes := #[] }
def k0m0 : Method := { name := "<init>", desc := "()V", sig := { parameters := [], returnType := none }, accessFlags := 1, code := some k0c0 }
/-- java/lang/Object -/
def k0 : Class := { plain "java/lang/Object" none with
  accessFlags := 33
  interfaces := #[]
  cf := some (fileOf pool0 8 #[] #[{ accessFlags := 1, nameIndex := 5, descriptorIndex := 6, attributes := #[] }] 33 0 #[] #[])
  fields := #[]
  methods := #[k0m0]
  instanceTypes := #[]
  staticTypes := #[]
  resolved := Array.replicate 124 none
  statics := none }

def pool1 : Array CpInfo := pool [(2, .class_ 4), (1, u "java/lang/Object"), (0, u "<init>"), (0, u "()V"), (0, .methodref 8 9), (0, .class_ 10), (0, .nameAndType 11 12), (0, u "java/lang/Math"), (0, u "min"), (0, u "(II)I"), (0, .class_ 14), (0, u "com/example/spurion/spurion/semantics/Joins"), (0, .methodref 13 16), (0, .nameAndType 5 17), (0, u "(I)V"), (0, .methodref 13 19), (0, .nameAndType 20 21), (0, u "union"), (0, u "(II)V"), (0, .methodref 23 24), (0, .class_ 25), (0, .nameAndType 26 27), (0, u "com/example/spurion/spurion/semantics/JoinsNamedPinLaw"), (0, u "join"), (0, u "([III)V"), (0, .methodref 13 29), (0, .nameAndType 30 31), (0, u "named"), (0, u "(I)I"), (3, u "law"), (0, u "(IIII)Z")] 4

def k1m0 : Method := { name := "<init>", desc := "()V", sig := { parameters := [], returnType := none }, accessFlags := 1, code := none }
def k1c1 : Code := { maxStack := 3, maxLocals := 6, code := method_2_code, exceptionTable := #[], attributes := #[] }
def k1m1 : Method := { name := "join", desc := "([III)V", sig := { parameters := [(.array .int), .int, .int], returnType := none }, accessFlags := 10, code := some k1c1 }
def k1c2 : Code := { maxStack := 4, maxLocals := 18, code := code, exceptionTable := #[], attributes := #[] }
def k1m2 : Method := { name := "law", desc := "(IIII)Z", sig := { parameters := [.int, .int, .int, .int], returnType := some .boolean }, accessFlags := 9, code := some k1c2 }
/-- com/example/spurion/spurion/semantics/JoinsNamedPinLaw -/
def k1 : Class := { plain "com/example/spurion/spurion/semantics/JoinsNamedPinLaw" (some 0) with
  accessFlags := 49
  interfaces := #[]
  cf := some (fileOf pool1 23 #[] #[{ accessFlags := 1, nameIndex := 5, descriptorIndex := 6, attributes := #[] }, { accessFlags := 10, nameIndex := 26, descriptorIndex := 27, attributes := #[] }, { accessFlags := 9, nameIndex := 35, descriptorIndex := 36, attributes := #[] }] 49 2 #[] #[])
  fields := #[]
  methods := #[k1m0, k1m1, k1m2]
  instanceTypes := #[]
  staticTypes := #[]
  resolved := Array.replicate 41 none
  statics := none }

def pool2 : Array CpInfo := pool [(1, .methodref 2 3), (0, .class_ 4), (0, .nameAndType 5 6), (0, u "java/lang/Object"), (0, u "<init>"), (0, u "()V"), (0, .fieldref 8 9), (0, .class_ 10), (0, .nameAndType 11 12), (0, u "com/example/spurion/spurion/semantics/Joins"), (0, u "towards"), (0, u "[I"), (0, .methodref 8 14), (0, .nameAndType 15 16), (0, u "named"), (0, u "(I)I"), (0, .methodref 18 19), (0, .class_ 20), (0, .nameAndType 21 22), (0, u "java/lang/Math"), (0, u "max"), (0, u "(II)I"), (0, .methodref 18 24), (0, .nameAndType 25 22), (0, u "min"), (0, u "(I)V"), (3, u "union"), (0, u "(II)V")] 5

def k2c0 : Code := { maxStack := 3, maxLocals := 3, code := prog_256_method_1_code, exceptionTable := #[], attributes := #[] }
def k2m0 : Method := { name := "<init>", desc := "(I)V", sig := { parameters := [.int], returnType := none }, accessFlags := 1, code := some k2c0 }
def k2c1 : Code := { maxStack := 4, maxLocals := 5, code := prog_256_method_2_code, exceptionTable := #[], attributes := #[] }
def k2m1 : Method := { name := "union", desc := "(II)V", sig := { parameters := [.int, .int], returnType := none }, accessFlags := 1, code := some k2c1 }
def k2c2 : Code := { maxStack := 5, maxLocals := 3, code := prog_256_method_3_code, exceptionTable := #[], attributes := #[] }
def k2m2 : Method := { name := "named", desc := "(I)I", sig := { parameters := [.int], returnType := some .int }, accessFlags := 1, code := some k2c2 }
/-- com/example/spurion/spurion/semantics/Joins -/
def k2 : Class := { plain "com/example/spurion/spurion/semantics/Joins" (some 0) with
  accessFlags := 49
  interfaces := #[]
  cf := some (fileOf pool2 8 #[] #[{ accessFlags := 1, nameIndex := 5, descriptorIndex := 26, attributes := #[] }, { accessFlags := 1, nameIndex := 30, descriptorIndex := 31, attributes := #[] }, { accessFlags := 1, nameIndex := 15, descriptorIndex := 16, attributes := #[] }] 49 2 #[] #[{ accessFlags := 18, nameIndex := 11, descriptorIndex := 12, attributes := #[] }])
  fields := #[{ name := "towards", type := (.array .int), accessFlags := 18, slot := 0, constantValue := 0 }]
  methods := #[k2m0, k2m1, k2m2]
  instanceTypes := #[(.array .int)]
  staticTypes := #[]
  resolved := Array.replicate 37 none
  statics := none }

def pool3 : Array CpInfo := pool [(1, .class_ 2), (0, u "java/lang/Math"), (1, .class_ 6), (1, u "java/lang/Object"), (0, u "<init>"), (0, u "()V"), (89, .class_ 100), (1, u "java/lang/Math$RandomNumberGeneratorHolder"), (71, u "negativeZeroFloatBits"), (0, u "J"), (2, u "negativeZeroDoubleBits"), (21, u "max"), (2, u "min"), (43, u "$assertionsDisabled"), (0, u "Z"), (88, u "(II)I"), (2, u "twoToTheDoubleScaleDown"), (0, u "D"), (4, u "twoToTheDoubleScaleUp"), (9, u "E"), (3, u "PI"), (2, u "TAU"), (2, u "DEGREES_TO_RADIANS"), (0, u "RADIANS_TO_DEGREES")] 94

def k3m0 : Method := { name := "<init>", desc := "()V", sig := { parameters := [], returnType := none }, accessFlags := 2, code := none }
def k3c1 : Code := { maxStack := 2, maxLocals := 2, code := jdk_29_method_65_code, exceptionTable := #[], attributes := #[] }
def k3m1 : Method := { name := "max", desc := "(II)I", sig := { parameters := [.int, .int], returnType := some .int }, accessFlags := 9, code := some k3c1 }
def k3c2 : Code := { maxStack := 2, maxLocals := 2, code := jdk_29_method_69_code, exceptionTable := #[], attributes := #[] }
def k3m2 : Method := { name := "min", desc := "(II)I", sig := { parameters := [.int, .int], returnType := some .int }, accessFlags := 9, code := some k3c2 }
/-- java/lang/Math -/
def k3 : Class := { plain "java/lang/Math" (some 0) with
  accessFlags := 49
  interfaces := #[]
  cf := some (fileOf pool3 1 #[.nestMembers #[98]] #[{ accessFlags := 2, nameIndex := 7, descriptorIndex := 8, attributes := #[] }, { accessFlags := 9, nameIndex := 198, descriptorIndex := 335, attributes := #[] }, { accessFlags := 9, nameIndex := 201, descriptorIndex := 335, attributes := #[] }] 49 4 #[] #[{ accessFlags := 25, nameIndex := 354, descriptorIndex := 339, attributes := #[] }, { accessFlags := 25, nameIndex := 358, descriptorIndex := 339, attributes := #[] }, { accessFlags := 25, nameIndex := 361, descriptorIndex := 339, attributes := #[] }, { accessFlags := 26, nameIndex := 364, descriptorIndex := 339, attributes := #[] }, { accessFlags := 26, nameIndex := 365, descriptorIndex := 339, attributes := #[] }, { accessFlags := 26, nameIndex := 172, descriptorIndex := 173, attributes := #[] }, { accessFlags := 26, nameIndex := 176, descriptorIndex := 173, attributes := #[] }, { accessFlags := 8, nameIndex := 344, descriptorIndex := 339, attributes := #[] }, { accessFlags := 8, nameIndex := 338, descriptorIndex := 339, attributes := #[] }, { accessFlags := 4120, nameIndex := 245, descriptorIndex := 246, attributes := #[] }])
  fields := #[{ name := "E", type := .double, accessFlags := 25, slot := 0, constantValue := 0 }, { name := "PI", type := .double, accessFlags := 25, slot := 1, constantValue := 0 }, { name := "TAU", type := .double, accessFlags := 25, slot := 2, constantValue := 0 }, { name := "DEGREES_TO_RADIANS", type := .double, accessFlags := 26, slot := 3, constantValue := 0 }, { name := "RADIANS_TO_DEGREES", type := .double, accessFlags := 26, slot := 4, constantValue := 0 }, { name := "negativeZeroFloatBits", type := .long, accessFlags := 26, slot := 5, constantValue := 0 }, { name := "negativeZeroDoubleBits", type := .long, accessFlags := 26, slot := 6, constantValue := 0 }, { name := "twoToTheDoubleScaleUp", type := .double, accessFlags := 8, slot := 7, constantValue := 0 }, { name := "twoToTheDoubleScaleDown", type := .double, accessFlags := 8, slot := 8, constantValue := 0 }, { name := "$assertionsDisabled", type := .boolean, accessFlags := 4120, slot := 9, constantValue := 0 }]
  methods := #[k3m0, k3m1, k3m2]
  instanceTypes := #[]
  staticTypes := #[.double, .double, .double, .double, .double, .long, .long, .double, .double, .boolean]
  resolved := Array.replicate 460 none
  statics := none }

def pool4 : Array CpInfo := pool [(1, u "java/lang/Cloneable"), (0, .class_ 1), (0, u "java/lang/Object"), (0, .class_ 3)] 3

/-- java/lang/Cloneable -/
def k4 : Class := { plain "java/lang/Cloneable" (some 0) with
  accessFlags := 1537
  interfaces := #[]
  cf := some (fileOf pool4 2 #[] #[] 1537 4 #[] #[])
  fields := #[]
  methods := #[]
  instanceTypes := #[]
  staticTypes := #[]
  resolved := Array.replicate 8 none
  statics := none }

def pool5 : Array CpInfo := pool [(1, u "java/io/Serializable"), (0, .class_ 1), (0, u "java/lang/Object"), (0, .class_ 3)] 3

/-- java/io/Serializable -/
def k5 : Class := { plain "java/io/Serializable" (some 0) with
  accessFlags := 1537
  interfaces := #[]
  cf := some (fileOf pool5 2 #[] #[] 1537 4 #[] #[])
  fields := #[]
  methods := #[]
  instanceTypes := #[]
  staticTypes := #[]
  resolved := Array.replicate 8 none
  statics := none }

/-- the primitive byte -/
def k6 : Class := { plain "byte" none with kind := .primitive 'B', accessFlags := 0x411 }
/-- [B -/
def k7 : Class := { plain "[B" (some 0) with kind := .array 6 .byte, interfaces := #[4, 5], accessFlags := 1041 }

/-- the primitive int -/
def k8 : Class := { plain "int" none with kind := .primitive 'I', accessFlags := 0x411 }
/-- [I -/
def k9 : Class := { plain "[I" (some 0) with kind := .array 8 .int, interfaces := #[4, 5], accessFlags := 1041 }

def heap : Heap := #[]
def classes : Array Class := #[k0, k1, k2, k3, k4, k5, k6, k7, k8, k9]
def interned : List (Array UInt16 × Addr) := []
def slotsUsed : Nat := 0
def theMethod : MethodId := ⟨1, 2⟩
def args0 : Array Value := #[.int 1, .int 6, .int 11, .int 2]
def aboutOver (below : List Frame) : State where
  vm := { classes := classes, interned := interned.toArray }
  heap := heap
  slotsUsed := slotsUsed
  threads := #[{ frames := .invoking theMethod args0 :: below }]
def below0 : List Frame := [.native { method := ⟨0, 0⟩, args := #[] }]
def about1 : State := aboutOver below0
def p0 : Program := .bare "" "" ""
def e0 : Env := launch0.env 0 0 0
theorem w_frames : about1.frames = Frame.invoking theMethod args0 :: below0 := rfl
set_option maxRecDepth 65536 in
theorem w_args : argsFit about1.vm theMethod args0 = true := by decide +kernel
set_option maxRecDepth 65536 in
theorem w_heap : heapFits about1 = true := by decide +kernel
set_option maxRecDepth 65536 in
theorem w_runnable : about1.curStatus? = some .runnable := by decide +kernel
set_option maxRecDepth 65536 in
theorem w_alone : about1.alone = true := by decide +kernel
set_option maxRecDepth 65536 in
theorem w_named : about1.methodNamed? x = some theMethod := by decide +kernel
set_option maxRecDepth 65536 in
theorem w_hears : about1.hears theMethod below0 = true := by decide +kernel
set_option maxRecDepth 65536 in
theorem w_ripe : about1.ripe theMethod args0 below0 = true := by decide +kernel
theorem w_running : about1.status = .running := rfl
set_option maxRecDepth 65536 in
theorem w_room : about1.hasRoom e0.platform room_1 = true :=
  launch0.hasRoom_least _ room_1 (by decide +kernel) (by decide +kernel) (by decide +kernel) (by decide +kernel) (by decide +kernel) (by decide +kernel)
theorem allAtoms_all (ts : List Jvm.Cond) (a : Array Jvm.Value) (st : Jvm.State) : (allAtoms ts).before a st = ts.all (fun c => c.before a st) := by
  induction ts with
  | nil => rfl
  | cons c t ih =>
    show (Jvm.Cond.and c (allAtoms t)).before a st = _
    rw [Jvm.Cond.before_and, ih, List.all_cons]
def words1 : List Jvm.Cond := Jvm.Cond.code x code maxLocals ret :: tables_1
/-- a 'code' word, met by the world's own term for the bytes: nothing is compared byte by byte -/
theorem code_word {y : MethodName} {bytes : ByteArray} {mx : Nat} {rt : Option FieldType} {a : Array Value} {s : State} {m : MethodId} {meth : Method} {c : Code} (h1 : s.methodNamed? y = some m) (h2 : s.vm.method? m = some meth) (h3 : meth.code = some c) (h4 : c.code = bytes)
    (h5 : (c.maxLocals == mx && c.exceptionTable.isEmpty && decide (c.maxStack ≤ mostOperands) && decide (meth.sig.returnType = rt) && !meth.locks && decide (parseMethodDescriptor y.desc = some meth.sig)) = true) : (Jvm.Cond.code y bytes mx rt).before a s = true := by
  simp only [Bool.and_eq_true, beq_iff_eq, Bool.not_eq_true', decide_eq_true_eq] at h5
  obtain ⟨⟨⟨⟨⟨g1, g2⟩, g3⟩, g4⟩, g5⟩, g6⟩ := h5
  simp [Cond.before, Cond.holds, Cond.value, h1, h2, h3, h4, g1, g2, g3, g4, g5, g6]
def isCode : Jvm.Cond → Bool
  | .code _ _ _ _ => true
  | _ => false
theorem all_split {L : List Jvm.Cond} {P : Jvm.Cond → Bool} (h1 : L.all (fun c => isCode c || P c) = true) (h2 : ∀ c ∈ L.filter isCode, P c = true) : L.all P = true := by
  refine List.all_eq_true.mpr fun c hc => ?_
  have h := List.all_eq_true.mp h1 c hc
  rcases Bool.eq_false_or_eq_true (isCode c) with hi | hi
  · exact h2 c (List.mem_filter.mpr ⟨hc, hi⟩)
  · simpa [hi] using h
set_option maxRecDepth 65536 in
theorem w_c0 : (Jvm.Cond.code x code maxLocals ret).before args0 about1 = true := code_word (m := ⟨1, 2⟩) (meth := k1m2) (c := k1c2) (by decide +kernel) rfl rfl rfl (by decide +kernel)
set_option maxRecDepth 65536 in
theorem w_c1 : (Jvm.Cond.code ({ cls := "com/example/spurion/spurion/semantics/Joins", name := "<init>", desc := "(I)V" } : Jvm.MethodName) prog_256_method_1_code (3 : Nat) (Option.none : Option Jvm.ClassFile.FieldType)).before args0 about1 = true := code_word (m := ⟨2, 0⟩) (meth := k2m0) (c := k2c0) (by decide +kernel) rfl rfl rfl (by decide +kernel)
set_option maxRecDepth 65536 in
theorem w_c2 : (Jvm.Cond.code ({ cls := "java/lang/Object", name := "<init>", desc := "()V" } : Jvm.MethodName) object_method_1_code (1 : Nat) (Option.none : Option Jvm.ClassFile.FieldType)).before args0 about1 = true := code_word (m := ⟨0, 0⟩) (meth := k0m0) (c := k0c0) (by decide +kernel) rfl rfl rfl (by decide +kernel)
set_option maxRecDepth 65536 in
theorem w_c3 : (Jvm.Cond.code ({ cls := "com/example/spurion/spurion/semantics/Joins", name := "union", desc := "(II)V" } : Jvm.MethodName) prog_256_method_2_code (5 : Nat) (Option.none : Option Jvm.ClassFile.FieldType)).before args0 about1 = true := code_word (m := ⟨2, 1⟩) (meth := k2m1) (c := k2c1) (by decide +kernel) rfl rfl rfl (by decide +kernel)
set_option maxRecDepth 65536 in
theorem w_c4 : (Jvm.Cond.code ({ cls := "com/example/spurion/spurion/semantics/Joins", name := "named", desc := "(I)I" } : Jvm.MethodName) prog_256_method_3_code (3 : Nat) (Option.some Jvm.ClassFile.FieldType.int)).before args0 about1 = true := code_word (m := ⟨2, 2⟩) (meth := k2m2) (c := k2c2) (by decide +kernel) rfl rfl rfl (by decide +kernel)
set_option maxRecDepth 65536 in
theorem w_c5 : (Jvm.Cond.code ({ cls := "com/example/spurion/spurion/semantics/JoinsNamedPinLaw", name := "join", desc := "([III)V" } : Jvm.MethodName) method_2_code (6 : Nat) (Option.none : Option Jvm.ClassFile.FieldType)).before args0 about1 = true := code_word (m := ⟨1, 1⟩) (meth := k1m1) (c := k1c1) (by decide +kernel) rfl rfl rfl (by decide +kernel)
set_option maxRecDepth 65536 in
theorem w_c6 : (Jvm.Cond.code ({ cls := "java/lang/Math", name := "min", desc := "(II)I" } : Jvm.MethodName) jdk_29_method_69_code (2 : Nat) (Option.some Jvm.ClassFile.FieldType.int)).before args0 about1 = true := code_word (m := ⟨3, 2⟩) (meth := k3m2) (c := k3c2) (by decide +kernel) rfl rfl rfl (by decide +kernel)
set_option maxRecDepth 65536 in
theorem w_c7 : (Jvm.Cond.code ({ cls := "java/lang/Math", name := "max", desc := "(II)I" } : Jvm.MethodName) jdk_29_method_65_code (2 : Nat) (Option.some Jvm.ClassFile.FieldType.int)).before args0 about1 = true := code_word (m := ⟨3, 1⟩) (meth := k3m1) (c := k3c1) (by decide +kernel) rfl rfl rfl (by decide +kernel)
def codes1 : List Jvm.Cond := [Jvm.Cond.code x code maxLocals ret, Jvm.Cond.code ({ cls := "com/example/spurion/spurion/semantics/Joins", name := "<init>", desc := "(I)V" } : Jvm.MethodName) prog_256_method_1_code (3 : Nat) (Option.none : Option Jvm.ClassFile.FieldType), Jvm.Cond.code ({ cls := "java/lang/Object", name := "<init>", desc := "()V" } : Jvm.MethodName) object_method_1_code (1 : Nat) (Option.none : Option Jvm.ClassFile.FieldType), Jvm.Cond.code ({ cls := "com/example/spurion/spurion/semantics/Joins", name := "union", desc := "(II)V" } : Jvm.MethodName) prog_256_method_2_code (5 : Nat) (Option.none : Option Jvm.ClassFile.FieldType), Jvm.Cond.code ({ cls := "com/example/spurion/spurion/semantics/Joins", name := "named", desc := "(I)I" } : Jvm.MethodName) prog_256_method_3_code (3 : Nat) (Option.some Jvm.ClassFile.FieldType.int), Jvm.Cond.code ({ cls := "com/example/spurion/spurion/semantics/JoinsNamedPinLaw", name := "join", desc := "([III)V" } : Jvm.MethodName) method_2_code (6 : Nat) (Option.none : Option Jvm.ClassFile.FieldType), Jvm.Cond.code ({ cls := "java/lang/Math", name := "min", desc := "(II)I" } : Jvm.MethodName) jdk_29_method_69_code (2 : Nat) (Option.some Jvm.ClassFile.FieldType.int), Jvm.Cond.code ({ cls := "java/lang/Math", name := "max", desc := "(II)I" } : Jvm.MethodName) jdk_29_method_65_code (2 : Nat) (Option.some Jvm.ClassFile.FieldType.int)]
set_option maxRecDepth 65536 in
theorem codes_eq : words1.filter isCode = codes1 := rfl
theorem w_codes : ∀ c ∈ words1.filter isCode, c.before args0 about1 = true := by
  rw [codes_eq]
  intro c hc
  simp only [codes1, List.mem_cons, List.not_mem_nil, or_false] at hc
  rcases hc with rfl | rfl | rfl | rfl | rfl | rfl | rfl | rfl
  · exact w_c0
  · exact w_c1
  · exact w_c2
  · exact w_c3
  · exact w_c4
  · exact w_c5
  · exact w_c6
  · exact w_c7
set_option maxRecDepth 65536 in
theorem w_t1 : (words1.take 24).all (fun c => isCode c || c.before args0 about1) = true := by decide +kernel
set_option maxRecDepth 65536 in
theorem w_t2 : (words1.drop 24).all (fun c => isCode c || c.before args0 about1) = true := by decide +kernel
theorem w_tables : (allAtoms (Jvm.Cond.code x code maxLocals ret :: tables_1)).before args0 about1 = true := by
  rw [allAtoms_all]
  show words1.all (fun c => c.before args0 about1) = true
  refine all_split ?_ w_codes
  rw [← List.take_append_drop 24 words1, List.all_append, w_t1, w_t2]
  rfl
set_option maxRecDepth 65536 in
theorem w_case : (Jvm.Cond.and given_1 narrow_1).before args0 about1 = true := by decide +kernel
theorem w_applies : (headSpec (Jvm.Cond.code x code maxLocals ret :: tables_1) room_1).applies x e0.platform about1 = true :=
  (Spec.applies_iff w_frames).mpr ⟨w_running, w_runnable, w_alone, w_named, w_hears, w_ripe, w_room, w_tables⟩
theorem atStart : AtStart classFile x code maxLocals ret World_1 tables_1 room_1 Calls_1 rest_1 Pre_1 launch0 p0 e0 about1 theMethod args0 below0 :=
  ⟨lists_1, trivial, launch0.admits_env _ _ _, launch0.least_env, fairChoices_fair.cas, fairChoices_fair.clock, w_frames, w_args, w_heap, w_applies, trivial, trivial, w_case⟩
end start1
theorem witness_1 : WitnessClaimed_1 := ⟨start1.p0, start1.e0, start1.about1, start1.theMethod, start1.args0, start1.below0, start1.atStart⟩
end Jvm.Pilot.@@N@@
