import JvmDerived
import JvmDerived.Pilot.@@N@@Statement
import JvmDerived.Pilot.@@N@@Code
set_option linter.unusedVariables false
set_option linter.unusedSimpArgs false
@@BLOCK:NumsL.lean.txt@@
namespace Jvm.Pilot.@@N@@
open Jvm Jvm.ClassFile Sem Op Lib Jvm.Free Jvm.Stand Jvm.LawKit Jvm.RoadKit Bundle Jvm.Pilot.@@N@@.Jvm.D
theorem d1_0 : decode prog_162_method_3_code 0 = .ok (.iload_n 0, 1) := by decide +kernel
theorem d1_1 : decode prog_162_method_3_code 1 = .ok (.bipush 32, 2) := by decide +kernel
theorem d1_3 : decode prog_162_method_3_code 3 = .ok (.if_icmp .eq 21, 3) := by decide +kernel
theorem d1_6 : decode prog_162_method_3_code 6 = .ok (.iload_n 0, 1) := by decide +kernel
theorem d1_7 : decode prog_162_method_3_code 7 = .ok (.bipush 9, 2) := by decide +kernel
theorem d1_9 : decode prog_162_method_3_code 9 = .ok (.if_icmp .eq 15, 3) := by decide +kernel
theorem d1_12 : decode prog_162_method_3_code 12 = .ok (.iload_n 0, 1) := by decide +kernel
theorem d1_13 : decode prog_162_method_3_code 13 = .ok (.bipush 10, 2) := by decide +kernel
theorem d1_15 : decode prog_162_method_3_code 15 = .ok (.if_icmp .eq 9, 3) := by decide +kernel
theorem d1_18 : decode prog_162_method_3_code 18 = .ok (.iload_n 0, 1) := by decide +kernel
theorem d1_19 : decode prog_162_method_3_code 19 = .ok (.bipush 13, 2) := by decide +kernel
theorem d1_21 : decode prog_162_method_3_code 21 = .ok (.if_icmp .ne 7, 3) := by decide +kernel
theorem d1_24 : decode prog_162_method_3_code 24 = .ok (.iconst 1, 1) := by decide +kernel
theorem d1_25 : decode prog_162_method_3_code 25 = .ok (.goto 4, 3) := by decide +kernel
theorem d1_28 : decode prog_162_method_3_code 28 = .ok (.iconst 0, 1) := by decide +kernel
theorem d1_29 : decode prog_162_method_3_code 29 = .ok (.ireturn, 1) := by decide +kernel
def v1_28 (x : Int32) : Int32 := (0 : Int32)
set_option maxRecDepth 65536 in
set_option maxHeartbeats 40000000 in
theorem b1_28 {p : Program} {l : Launch} {e : Env} {R : Room} {s : State} {m : MethodId} {args : Array Value} {below : List Frame} {meth : Method} {c : Code} {T : State} {locs : List Loc} {cells slots : Nat} {Z : State} {a0 : Array Value} (X : Stand p l e R s m args below meth c T locs cells slots) (hx : p.tables.exec = Jvm.exec) (hZ : Z.Warmed39 s.vm) (hw : ∀ d ∈ tables_1, d.before a0 Z = true) (hby : c.code = prog_162_method_3_code) (hown : s.vm.findClass "com/example/libxdm/libxdm/model/XmlNames" = some m.cls) (hret : meth.sig.returnType = some .boolean) (x w : Int32) (hv : v1_28 x = w) {fs : List Frame} (hr : ∀ (f : JFrame) (acts : List Action), f.method = m → f.locked = none → f.entered = [] → (doReturn e (T.setTop f) acts (some (.int w))).1 = T.setFrames fs) : Steps p.tables e below (T.setTop (mkF m 28 #[.val (.int x)] [])) (T.setFrames fs) := by
  change (0 : Int32) = w at hv
  show Steps p.tables e below (T.setTop (mkF m 28 #[.val (.int x)] [])) _
  refine XS.iconst X.here hx rfl (hb hby d1_28) ?_
  show Steps p.tables e below (T.setTop (mkF m 29 #[.val (.int x)] [(.int (0 : Int32))])) _
  subst hv
  exact retN X hx (t := .boolean) hret (by simp) (hb hby d1_29) hr
def v1_24 (x : Int32) : Int32 := (1 : Int32)
set_option maxRecDepth 65536 in
set_option maxHeartbeats 40000000 in
theorem b1_24 {p : Program} {l : Launch} {e : Env} {R : Room} {s : State} {m : MethodId} {args : Array Value} {below : List Frame} {meth : Method} {c : Code} {T : State} {locs : List Loc} {cells slots : Nat} {Z : State} {a0 : Array Value} (X : Stand p l e R s m args below meth c T locs cells slots) (hx : p.tables.exec = Jvm.exec) (hZ : Z.Warmed39 s.vm) (hw : ∀ d ∈ tables_1, d.before a0 Z = true) (hby : c.code = prog_162_method_3_code) (hown : s.vm.findClass "com/example/libxdm/libxdm/model/XmlNames" = some m.cls) (hret : meth.sig.returnType = some .boolean) (x w : Int32) (hv : v1_24 x = w) {fs : List Frame} (hr : ∀ (f : JFrame) (acts : List Action), f.method = m → f.locked = none → f.entered = [] → (doReturn e (T.setTop f) acts (some (.int w))).1 = T.setFrames fs) : Steps p.tables e below (T.setTop (mkF m 24 #[.val (.int x)] [])) (T.setFrames fs) := by
  change (1 : Int32) = w at hv
  show Steps p.tables e below (T.setTop (mkF m 24 #[.val (.int x)] [])) _
  refine XS.iconst X.here hx rfl (hb hby d1_24) ?_
  show Steps p.tables e below (T.setTop (mkF m 25 #[.val (.int x)] [(.int (1 : Int32))])) _
  refine XS.goto X.here hx rfl (pc0 := 25) (pc' := 29) rfl (hb hby d1_25) (by decide) (by decide) ?_
  show Steps p.tables e below (T.setTop (mkF m 29 #[.val (.int x)] [(.int (1 : Int32))])) _
  subst hv
  exact retN X hx (t := .boolean) hret (by simp) (hb hby d1_29) hr
def v1_18 (x : Int32) : Int32 := (if x = (13 : Int32) then v1_24 x else v1_28 x)
set_option maxRecDepth 65536 in
set_option maxHeartbeats 40000000 in
theorem b1_18 {p : Program} {l : Launch} {e : Env} {R : Room} {s : State} {m : MethodId} {args : Array Value} {below : List Frame} {meth : Method} {c : Code} {T : State} {locs : List Loc} {cells slots : Nat} {Z : State} {a0 : Array Value} (X : Stand p l e R s m args below meth c T locs cells slots) (hx : p.tables.exec = Jvm.exec) (hZ : Z.Warmed39 s.vm) (hw : ∀ d ∈ tables_1, d.before a0 Z = true) (hby : c.code = prog_162_method_3_code) (hown : s.vm.findClass "com/example/libxdm/libxdm/model/XmlNames" = some m.cls) (hret : meth.sig.returnType = some .boolean) (x w : Int32) (hv : v1_18 x = w) {fs : List Frame} (hr : ∀ (f : JFrame) (acts : List Action), f.method = m → f.locked = none → f.entered = [] → (doReturn e (T.setTop f) acts (some (.int w))).1 = T.setFrames fs) : Steps p.tables e below (T.setTop (mkF m 18 #[.val (.int x)] [])) (T.setFrames fs) := by
  change (if x = (13 : Int32) then v1_24 x else v1_28 x) = w at hv
  show Steps p.tables e below (T.setTop (mkF m 18 #[.val (.int x)] [])) _
  refine XS.iloadN X.here hx rfl (hb hby d1_18) rfl ?_
  show Steps p.tables e below (T.setTop (mkF m 19 #[.val (.int x)] [(.int x)])) _
  refine XS.bipush X.here hx rfl (hb hby d1_19) ?_
  show Steps p.tables e below (T.setTop (mkF m 21 #[.val (.int x)] [(.int (13 : Int32)), (.int x)])) _
  by_cases hc0 : x = (13 : Int32)
  · rw [if_pos hc0] at hv
    refine XS.icmpNo X.here hx rfl (hb hby d1_21) rfl (teq hc0).2 ?_
    exact b1_24 X hx hZ hw hby hown hret x w hv hr
  · rw [if_neg hc0] at hv
    refine XS.icmpYes X.here hx rfl (pc0 := 21) (pc' := 28) rfl (hb hby d1_21) rfl (feq hc0).2 (by decide) (by decide) ?_
    exact b1_28 X hx hZ hw hby hown hret x w hv hr
def v1_12 (x : Int32) : Int32 := (if x = (10 : Int32) then v1_24 x else v1_18 x)
set_option maxRecDepth 65536 in
set_option maxHeartbeats 40000000 in
theorem b1_12 {p : Program} {l : Launch} {e : Env} {R : Room} {s : State} {m : MethodId} {args : Array Value} {below : List Frame} {meth : Method} {c : Code} {T : State} {locs : List Loc} {cells slots : Nat} {Z : State} {a0 : Array Value} (X : Stand p l e R s m args below meth c T locs cells slots) (hx : p.tables.exec = Jvm.exec) (hZ : Z.Warmed39 s.vm) (hw : ∀ d ∈ tables_1, d.before a0 Z = true) (hby : c.code = prog_162_method_3_code) (hown : s.vm.findClass "com/example/libxdm/libxdm/model/XmlNames" = some m.cls) (hret : meth.sig.returnType = some .boolean) (x w : Int32) (hv : v1_12 x = w) {fs : List Frame} (hr : ∀ (f : JFrame) (acts : List Action), f.method = m → f.locked = none → f.entered = [] → (doReturn e (T.setTop f) acts (some (.int w))).1 = T.setFrames fs) : Steps p.tables e below (T.setTop (mkF m 12 #[.val (.int x)] [])) (T.setFrames fs) := by
  change (if x = (10 : Int32) then v1_24 x else v1_18 x) = w at hv
  show Steps p.tables e below (T.setTop (mkF m 12 #[.val (.int x)] [])) _
  refine XS.iloadN X.here hx rfl (hb hby d1_12) rfl ?_
  show Steps p.tables e below (T.setTop (mkF m 13 #[.val (.int x)] [(.int x)])) _
  refine XS.bipush X.here hx rfl (hb hby d1_13) ?_
  show Steps p.tables e below (T.setTop (mkF m 15 #[.val (.int x)] [(.int (10 : Int32)), (.int x)])) _
  by_cases hc0 : x = (10 : Int32)
  · rw [if_pos hc0] at hv
    refine XS.icmpYes X.here hx rfl (pc0 := 15) (pc' := 24) rfl (hb hby d1_15) rfl (teq hc0).1 (by decide) (by decide) ?_
    exact b1_24 X hx hZ hw hby hown hret x w hv hr
  · rw [if_neg hc0] at hv
    refine XS.icmpNo X.here hx rfl (hb hby d1_15) rfl (feq hc0).1 ?_
    exact b1_18 X hx hZ hw hby hown hret x w hv hr
def v1_6 (x : Int32) : Int32 := (if x = (9 : Int32) then v1_24 x else v1_12 x)
set_option maxRecDepth 65536 in
set_option maxHeartbeats 40000000 in
theorem b1_6 {p : Program} {l : Launch} {e : Env} {R : Room} {s : State} {m : MethodId} {args : Array Value} {below : List Frame} {meth : Method} {c : Code} {T : State} {locs : List Loc} {cells slots : Nat} {Z : State} {a0 : Array Value} (X : Stand p l e R s m args below meth c T locs cells slots) (hx : p.tables.exec = Jvm.exec) (hZ : Z.Warmed39 s.vm) (hw : ∀ d ∈ tables_1, d.before a0 Z = true) (hby : c.code = prog_162_method_3_code) (hown : s.vm.findClass "com/example/libxdm/libxdm/model/XmlNames" = some m.cls) (hret : meth.sig.returnType = some .boolean) (x w : Int32) (hv : v1_6 x = w) {fs : List Frame} (hr : ∀ (f : JFrame) (acts : List Action), f.method = m → f.locked = none → f.entered = [] → (doReturn e (T.setTop f) acts (some (.int w))).1 = T.setFrames fs) : Steps p.tables e below (T.setTop (mkF m 6 #[.val (.int x)] [])) (T.setFrames fs) := by
  change (if x = (9 : Int32) then v1_24 x else v1_12 x) = w at hv
  show Steps p.tables e below (T.setTop (mkF m 6 #[.val (.int x)] [])) _
  refine XS.iloadN X.here hx rfl (hb hby d1_6) rfl ?_
  show Steps p.tables e below (T.setTop (mkF m 7 #[.val (.int x)] [(.int x)])) _
  refine XS.bipush X.here hx rfl (hb hby d1_7) ?_
  show Steps p.tables e below (T.setTop (mkF m 9 #[.val (.int x)] [(.int (9 : Int32)), (.int x)])) _
  by_cases hc0 : x = (9 : Int32)
  · rw [if_pos hc0] at hv
    refine XS.icmpYes X.here hx rfl (pc0 := 9) (pc' := 24) rfl (hb hby d1_9) rfl (teq hc0).1 (by decide) (by decide) ?_
    exact b1_24 X hx hZ hw hby hown hret x w hv hr
  · rw [if_neg hc0] at hv
    refine XS.icmpNo X.here hx rfl (hb hby d1_9) rfl (feq hc0).1 ?_
    exact b1_12 X hx hZ hw hby hown hret x w hv hr
def v1_0 (x : Int32) : Int32 := (if x = (32 : Int32) then v1_24 x else v1_6 x)
set_option maxRecDepth 65536 in
set_option maxHeartbeats 40000000 in
theorem b1_0 {p : Program} {l : Launch} {e : Env} {R : Room} {s : State} {m : MethodId} {args : Array Value} {below : List Frame} {meth : Method} {c : Code} {T : State} {locs : List Loc} {cells slots : Nat} {Z : State} {a0 : Array Value} (X : Stand p l e R s m args below meth c T locs cells slots) (hx : p.tables.exec = Jvm.exec) (hZ : Z.Warmed39 s.vm) (hw : ∀ d ∈ tables_1, d.before a0 Z = true) (hby : c.code = prog_162_method_3_code) (hown : s.vm.findClass "com/example/libxdm/libxdm/model/XmlNames" = some m.cls) (hret : meth.sig.returnType = some .boolean) (x w : Int32) (hv : v1_0 x = w) {fs : List Frame} (hr : ∀ (f : JFrame) (acts : List Action), f.method = m → f.locked = none → f.entered = [] → (doReturn e (T.setTop f) acts (some (.int w))).1 = T.setFrames fs) : Steps p.tables e below (T.setTop (mkF m 0 #[.val (.int x)] [])) (T.setFrames fs) := by
  change (if x = (32 : Int32) then v1_24 x else v1_6 x) = w at hv
  show Steps p.tables e below (T.setTop (mkF m 0 #[.val (.int x)] [])) _
  refine XS.iloadN X.here hx rfl (hb hby d1_0) rfl ?_
  show Steps p.tables e below (T.setTop (mkF m 1 #[.val (.int x)] [(.int x)])) _
  refine XS.bipush X.here hx rfl (hb hby d1_1) ?_
  show Steps p.tables e below (T.setTop (mkF m 3 #[.val (.int x)] [(.int (32 : Int32)), (.int x)])) _
  by_cases hc0 : x = (32 : Int32)
  · rw [if_pos hc0] at hv
    refine XS.icmpYes X.here hx rfl (pc0 := 3) (pc' := 24) rfl (hb hby d1_3) rfl (teq hc0).1 (by decide) (by decide) ?_
    exact b1_24 X hx hZ hw hby hown hret x w hv hr
  · rw [if_neg hc0] at hv
    refine XS.icmpNo X.here hx rfl (hb hby d1_3) rfl (feq hc0).1 ?_
    exact b1_6 X hx hZ hw hby hown hret x w hv hr
theorem pn_1 : plainName "com/example/libxdm/libxdm/model/XmlNames" = true := by first | (simp [plainName, overriddenIn]; done) | decide +kernel
theorem ef_1 (m : MethodId) (x0 : Int32) : entryFrame m #[(.int x0)] 1 = mkF m 0 #[.val (.int x0)] [] := by first | (simp [entryFrame, mkF, argsToLocals, Value.category]; done) | rfl
def Q1 (Z : State) (p1 : Int32) (h0 : Heap) (n0 : Nat) (v : Option Value) (h : Heap) (L : List Loc) : Prop := v = some (.int (v1_0 p1)) ∧ Fr n0 L ∧ h = h0
set_option maxRecDepth 65536 in
set_option maxHeartbeats 40000000 in
theorem rm1 (l : Launch) (Z : State) (a0 : Array Value) (hw : ∀ d ∈ tables_1, d.before a0 Z = true) (ws : List Jvm.Cond) (p1 : Int32) (h0 : Heap) (n0 : Nat) :
    MetFree l (⟨"com/example/libxdm/libxdm/model/XmlNames", "isWhitespace", "(I)Z"⟩ : MethodName) (head1 (Jvm.Cond.code (⟨"com/example/libxdm/libxdm/model/XmlNames", "isWhitespace", "(I)Z"⟩ : MethodName) prog_162_method_3_code 1 (some .boolean) :: ws) ({ frames := 0, cells := 0, slots := 0, locals := 0 } : Room)) (fun a U => a = #[(.int p1)] ∧ Z.Warmed39 U.vm ∧ U.heap = h0) (fun _ _ _ _ _ => True) (fun _ U o U' => ∃ v L, o = .returned v ∧ Q1 Z p1 h0 n0 v U'.heap L ∧ FrameEnd U o U' L ({ frames := 0, cells := 0, slots := 0, locals := 0 } : Room).cells ({ frames := 0, cells := 0, slots := 0, locals := 0 } : Room).slots) := by
  refine MetFree.of_bodySF (plainFor_of_name pn_1) hisR ?_
  intro p e s m args below meth c s₁ Bd hml0 hP hK
  obtain ⟨rfl, hZ, hh⟩ := hP
  have hx := Bd.exec
  have hby := Bd.bytes
  have hown : s.vm.findClass "com/example/libxdm/libxdm/model/XmlNames" = some m.cls := findClass_of_methodNamed Bd.named
  have X0 : Stand p l e ({ frames := 0, cells := 0, slots := 0, locals := 0 } : Room) s m #[(.int p1)] below meth c s₁ [] 0 0 := Stand.of_body Bd
  have e0 : s₁.heap = h0 := by rw [← hh, Bd.state]; rfl
  have N0 := Fr.nil n0
  have pre0 : ∀ t, Steps p.tables e below (s₁.setTop (mkF m 0 #[.val (.int p1)] [])) t → Steps p.tables e below (s₁.setTop (entryFrame m #[(.int p1)] 1)) t := fun t k => castTop (ef_1 m p1) k
  obtain ⟨fs, hr, hrun, hended, hW, hsame⟩ := X0.leave (v := some (.int (v1_0 p1))) (fun h => by rw [Bd.returns] at h; cases h)
  refine ⟨_, _, pre0 _ ?_, hrun, hended, _, _, rfl, ?_, ⟨_, rfl⟩, hW, hsame.mono (by decide) (by decide)⟩
  · exact b1_0 X0 hx hZ hw hby hown Bd.returns p1 _ rfl hr
  · show Q1 Z p1 h0 n0 _ s₁.heap _
    rw [e0]
    exact ⟨rfl, N0, rfl⟩
theorem r1_0 (x : Int32) : v1_0 x = (if (x = (32 : Int32)) ∨ (x = (9 : Int32)) then v1_24 x else v1_12 x) := by
  unfold v1_0 v1_6
  by_cases h1 : x = (32 : Int32) <;> by_cases h2 : x = (9 : Int32) <;> simp [h1, h2]
theorem r1_12 (x : Int32) : v1_12 x = (if (x = (10 : Int32)) ∨ (x = (13 : Int32)) then v1_24 x else v1_28 x) := by
  unfold v1_12 v1_18
  by_cases h1 : x = (10 : Int32) <;> by_cases h2 : x = (13 : Int32) <;> simp [h1, h2]
theorem r1_28 (x : Int32) : v1_28 x = (0 : Int32) := rfl
theorem r1_24 (x : Int32) : v1_24 x = (1 : Int32) := rfl
theorem d2_0 : decode method_2_code 0 = .ok (.iload_n 0, 1) := by decide +kernel
theorem d2_1 : decode method_2_code 1 = .ok (.bipush 32, 2) := by decide +kernel
theorem d2_3 : decode method_2_code 3 = .ok (.if_icmp .ne 5, 3) := by decide +kernel
theorem d2_6 : decode method_2_code 6 = .ok (.iconst 1, 1) := by decide +kernel
theorem d2_7 : decode method_2_code 7 = .ok (.ireturn, 1) := by decide +kernel
theorem d2_8 : decode method_2_code 8 = .ok (.iload_n 0, 1) := by decide +kernel
theorem d2_9 : decode method_2_code 9 = .ok (.bipush 9, 2) := by decide +kernel
theorem d2_11 : decode method_2_code 11 = .ok (.if_icmp .lt 9, 3) := by decide +kernel
theorem d2_14 : decode method_2_code 14 = .ok (.iload_n 0, 1) := by decide +kernel
theorem d2_15 : decode method_2_code 15 = .ok (.bipush 13, 2) := by decide +kernel
theorem d2_17 : decode method_2_code 17 = .ok (.if_icmp .le 5, 3) := by decide +kernel
theorem d2_20 : decode method_2_code 20 = .ok (.iconst 0, 1) := by decide +kernel
theorem d2_21 : decode method_2_code 21 = .ok (.ireturn, 1) := by decide +kernel
theorem d2_22 : decode method_2_code 22 = .ok (.iload_n 0, 1) := by decide +kernel
theorem d2_23 : decode method_2_code 23 = .ok (.bipush 11, 2) := by decide +kernel
theorem d2_25 : decode method_2_code 25 = .ok (.if_icmp .eq 13, 3) := by decide +kernel
theorem d2_28 : decode method_2_code 28 = .ok (.iload_n 0, 1) := by decide +kernel
theorem d2_29 : decode method_2_code 29 = .ok (.bipush 12, 2) := by decide +kernel
theorem d2_31 : decode method_2_code 31 = .ok (.if_icmp .eq 7, 3) := by decide +kernel
theorem d2_34 : decode method_2_code 34 = .ok (.iconst 1, 1) := by decide +kernel
theorem d2_35 : decode method_2_code 35 = .ok (.goto 4, 3) := by decide +kernel
theorem d2_38 : decode method_2_code 38 = .ok (.iconst 0, 1) := by decide +kernel
theorem d2_39 : decode method_2_code 39 = .ok (.ireturn, 1) := by decide +kernel
def v2_38 (x : Int32) : Int32 := (0 : Int32)
set_option maxRecDepth 65536 in
set_option maxHeartbeats 40000000 in
theorem b2_38 {p : Program} {l : Launch} {e : Env} {R : Room} {s : State} {m : MethodId} {args : Array Value} {below : List Frame} {meth : Method} {c : Code} {T : State} {locs : List Loc} {cells slots : Nat} {Z : State} {a0 : Array Value} (X : Stand p l e R s m args below meth c T locs cells slots) (hx : p.tables.exec = Jvm.exec) (hZ : Z.Warmed39 s.vm) (hw : ∀ d ∈ tables_1, d.before a0 Z = true) (hby : c.code = method_2_code) (hown : s.vm.findClass "com/example/libxdm/libxdm/model/XmlNamesIsWhitespacePinLaw" = some m.cls) (hret : meth.sig.returnType = some .boolean) (x w : Int32) (hv : v2_38 x = w) {fs : List Frame} (hr : ∀ (f : JFrame) (acts : List Action), f.method = m → f.locked = none → f.entered = [] → (doReturn e (T.setTop f) acts (some (.int w))).1 = T.setFrames fs) : Steps p.tables e below (T.setTop (mkF m 38 #[.val (.int x)] [])) (T.setFrames fs) := by
  change (0 : Int32) = w at hv
  show Steps p.tables e below (T.setTop (mkF m 38 #[.val (.int x)] [])) _
  refine XS.iconst X.here hx rfl (hb hby d2_38) ?_
  show Steps p.tables e below (T.setTop (mkF m 39 #[.val (.int x)] [(.int (0 : Int32))])) _
  subst hv
  exact retN X hx (t := .boolean) hret (by simp) (hb hby d2_39) hr
def v2_34 (x : Int32) : Int32 := (1 : Int32)
set_option maxRecDepth 65536 in
set_option maxHeartbeats 40000000 in
theorem b2_34 {p : Program} {l : Launch} {e : Env} {R : Room} {s : State} {m : MethodId} {args : Array Value} {below : List Frame} {meth : Method} {c : Code} {T : State} {locs : List Loc} {cells slots : Nat} {Z : State} {a0 : Array Value} (X : Stand p l e R s m args below meth c T locs cells slots) (hx : p.tables.exec = Jvm.exec) (hZ : Z.Warmed39 s.vm) (hw : ∀ d ∈ tables_1, d.before a0 Z = true) (hby : c.code = method_2_code) (hown : s.vm.findClass "com/example/libxdm/libxdm/model/XmlNamesIsWhitespacePinLaw" = some m.cls) (hret : meth.sig.returnType = some .boolean) (x w : Int32) (hv : v2_34 x = w) {fs : List Frame} (hr : ∀ (f : JFrame) (acts : List Action), f.method = m → f.locked = none → f.entered = [] → (doReturn e (T.setTop f) acts (some (.int w))).1 = T.setFrames fs) : Steps p.tables e below (T.setTop (mkF m 34 #[.val (.int x)] [])) (T.setFrames fs) := by
  change (1 : Int32) = w at hv
  show Steps p.tables e below (T.setTop (mkF m 34 #[.val (.int x)] [])) _
  refine XS.iconst X.here hx rfl (hb hby d2_34) ?_
  show Steps p.tables e below (T.setTop (mkF m 35 #[.val (.int x)] [(.int (1 : Int32))])) _
  refine XS.goto X.here hx rfl (pc0 := 35) (pc' := 39) rfl (hb hby d2_35) (by decide) (by decide) ?_
  show Steps p.tables e below (T.setTop (mkF m 39 #[.val (.int x)] [(.int (1 : Int32))])) _
  subst hv
  exact retN X hx (t := .boolean) hret (by simp) (hb hby d2_39) hr
def v2_28 (x : Int32) : Int32 := (if x = (12 : Int32) then v2_38 x else v2_34 x)
set_option maxRecDepth 65536 in
set_option maxHeartbeats 40000000 in
theorem b2_28 {p : Program} {l : Launch} {e : Env} {R : Room} {s : State} {m : MethodId} {args : Array Value} {below : List Frame} {meth : Method} {c : Code} {T : State} {locs : List Loc} {cells slots : Nat} {Z : State} {a0 : Array Value} (X : Stand p l e R s m args below meth c T locs cells slots) (hx : p.tables.exec = Jvm.exec) (hZ : Z.Warmed39 s.vm) (hw : ∀ d ∈ tables_1, d.before a0 Z = true) (hby : c.code = method_2_code) (hown : s.vm.findClass "com/example/libxdm/libxdm/model/XmlNamesIsWhitespacePinLaw" = some m.cls) (hret : meth.sig.returnType = some .boolean) (x w : Int32) (hv : v2_28 x = w) {fs : List Frame} (hr : ∀ (f : JFrame) (acts : List Action), f.method = m → f.locked = none → f.entered = [] → (doReturn e (T.setTop f) acts (some (.int w))).1 = T.setFrames fs) : Steps p.tables e below (T.setTop (mkF m 28 #[.val (.int x)] [])) (T.setFrames fs) := by
  change (if x = (12 : Int32) then v2_38 x else v2_34 x) = w at hv
  show Steps p.tables e below (T.setTop (mkF m 28 #[.val (.int x)] [])) _
  refine XS.iloadN X.here hx rfl (hb hby d2_28) rfl ?_
  show Steps p.tables e below (T.setTop (mkF m 29 #[.val (.int x)] [(.int x)])) _
  refine XS.bipush X.here hx rfl (hb hby d2_29) ?_
  show Steps p.tables e below (T.setTop (mkF m 31 #[.val (.int x)] [(.int (12 : Int32)), (.int x)])) _
  by_cases hc0 : x = (12 : Int32)
  · rw [if_pos hc0] at hv
    refine XS.icmpYes X.here hx rfl (pc0 := 31) (pc' := 38) rfl (hb hby d2_31) rfl (teq hc0).1 (by decide) (by decide) ?_
    exact b2_38 X hx hZ hw hby hown hret x w hv hr
  · rw [if_neg hc0] at hv
    refine XS.icmpNo X.here hx rfl (hb hby d2_31) rfl (feq hc0).1 ?_
    exact b2_34 X hx hZ hw hby hown hret x w hv hr
def v2_22 (x : Int32) : Int32 := (if x = (11 : Int32) then v2_38 x else v2_28 x)
set_option maxRecDepth 65536 in
set_option maxHeartbeats 40000000 in
theorem b2_22 {p : Program} {l : Launch} {e : Env} {R : Room} {s : State} {m : MethodId} {args : Array Value} {below : List Frame} {meth : Method} {c : Code} {T : State} {locs : List Loc} {cells slots : Nat} {Z : State} {a0 : Array Value} (X : Stand p l e R s m args below meth c T locs cells slots) (hx : p.tables.exec = Jvm.exec) (hZ : Z.Warmed39 s.vm) (hw : ∀ d ∈ tables_1, d.before a0 Z = true) (hby : c.code = method_2_code) (hown : s.vm.findClass "com/example/libxdm/libxdm/model/XmlNamesIsWhitespacePinLaw" = some m.cls) (hret : meth.sig.returnType = some .boolean) (x w : Int32) (hv : v2_22 x = w) {fs : List Frame} (hr : ∀ (f : JFrame) (acts : List Action), f.method = m → f.locked = none → f.entered = [] → (doReturn e (T.setTop f) acts (some (.int w))).1 = T.setFrames fs) : Steps p.tables e below (T.setTop (mkF m 22 #[.val (.int x)] [])) (T.setFrames fs) := by
  change (if x = (11 : Int32) then v2_38 x else v2_28 x) = w at hv
  show Steps p.tables e below (T.setTop (mkF m 22 #[.val (.int x)] [])) _
  refine XS.iloadN X.here hx rfl (hb hby d2_22) rfl ?_
  show Steps p.tables e below (T.setTop (mkF m 23 #[.val (.int x)] [(.int x)])) _
  refine XS.bipush X.here hx rfl (hb hby d2_23) ?_
  show Steps p.tables e below (T.setTop (mkF m 25 #[.val (.int x)] [(.int (11 : Int32)), (.int x)])) _
  by_cases hc0 : x = (11 : Int32)
  · rw [if_pos hc0] at hv
    refine XS.icmpYes X.here hx rfl (pc0 := 25) (pc' := 38) rfl (hb hby d2_25) rfl (teq hc0).1 (by decide) (by decide) ?_
    exact b2_38 X hx hZ hw hby hown hret x w hv hr
  · rw [if_neg hc0] at hv
    refine XS.icmpNo X.here hx rfl (hb hby d2_25) rfl (feq hc0).1 ?_
    exact b2_28 X hx hZ hw hby hown hret x w hv hr
def v2_20 (x : Int32) : Int32 := (0 : Int32)
set_option maxRecDepth 65536 in
set_option maxHeartbeats 40000000 in
theorem b2_20 {p : Program} {l : Launch} {e : Env} {R : Room} {s : State} {m : MethodId} {args : Array Value} {below : List Frame} {meth : Method} {c : Code} {T : State} {locs : List Loc} {cells slots : Nat} {Z : State} {a0 : Array Value} (X : Stand p l e R s m args below meth c T locs cells slots) (hx : p.tables.exec = Jvm.exec) (hZ : Z.Warmed39 s.vm) (hw : ∀ d ∈ tables_1, d.before a0 Z = true) (hby : c.code = method_2_code) (hown : s.vm.findClass "com/example/libxdm/libxdm/model/XmlNamesIsWhitespacePinLaw" = some m.cls) (hret : meth.sig.returnType = some .boolean) (x w : Int32) (hv : v2_20 x = w) {fs : List Frame} (hr : ∀ (f : JFrame) (acts : List Action), f.method = m → f.locked = none → f.entered = [] → (doReturn e (T.setTop f) acts (some (.int w))).1 = T.setFrames fs) : Steps p.tables e below (T.setTop (mkF m 20 #[.val (.int x)] [])) (T.setFrames fs) := by
  change (0 : Int32) = w at hv
  show Steps p.tables e below (T.setTop (mkF m 20 #[.val (.int x)] [])) _
  refine XS.iconst X.here hx rfl (hb hby d2_20) ?_
  show Steps p.tables e below (T.setTop (mkF m 21 #[.val (.int x)] [(.int (0 : Int32))])) _
  subst hv
  exact retN X hx (t := .boolean) hret (by simp) (hb hby d2_21) hr
def v2_14 (x : Int32) : Int32 := (if (13 : Int32) < x then v2_20 x else v2_22 x)
set_option maxRecDepth 65536 in
set_option maxHeartbeats 40000000 in
theorem b2_14 {p : Program} {l : Launch} {e : Env} {R : Room} {s : State} {m : MethodId} {args : Array Value} {below : List Frame} {meth : Method} {c : Code} {T : State} {locs : List Loc} {cells slots : Nat} {Z : State} {a0 : Array Value} (X : Stand p l e R s m args below meth c T locs cells slots) (hx : p.tables.exec = Jvm.exec) (hZ : Z.Warmed39 s.vm) (hw : ∀ d ∈ tables_1, d.before a0 Z = true) (hby : c.code = method_2_code) (hown : s.vm.findClass "com/example/libxdm/libxdm/model/XmlNamesIsWhitespacePinLaw" = some m.cls) (hret : meth.sig.returnType = some .boolean) (x w : Int32) (hv : v2_14 x = w) {fs : List Frame} (hr : ∀ (f : JFrame) (acts : List Action), f.method = m → f.locked = none → f.entered = [] → (doReturn e (T.setTop f) acts (some (.int w))).1 = T.setFrames fs) : Steps p.tables e below (T.setTop (mkF m 14 #[.val (.int x)] [])) (T.setFrames fs) := by
  change (if (13 : Int32) < x then v2_20 x else v2_22 x) = w at hv
  show Steps p.tables e below (T.setTop (mkF m 14 #[.val (.int x)] [])) _
  refine XS.iloadN X.here hx rfl (hb hby d2_14) rfl ?_
  show Steps p.tables e below (T.setTop (mkF m 15 #[.val (.int x)] [(.int x)])) _
  refine XS.bipush X.here hx rfl (hb hby d2_15) ?_
  show Steps p.tables e below (T.setTop (mkF m 17 #[.val (.int x)] [(.int (13 : Int32)), (.int x)])) _
  by_cases hc0 : (13 : Int32) < x
  · rw [if_pos hc0] at hv
    refine XS.icmpNo X.here hx rfl (hb hby d2_17) rfl (tlt hc0).2.2.2 ?_
    exact b2_20 X hx hZ hw hby hown hret x w hv hr
  · rw [if_neg hc0] at hv
    refine XS.icmpYes X.here hx rfl (pc0 := 17) (pc' := 22) rfl (hb hby d2_17) rfl (flt hc0).2.2.2 (by decide) (by decide) ?_
    exact b2_22 X hx hZ hw hby hown hret x w hv hr
def v2_8 (x : Int32) : Int32 := (if x < (9 : Int32) then v2_20 x else v2_14 x)
set_option maxRecDepth 65536 in
set_option maxHeartbeats 40000000 in
theorem b2_8 {p : Program} {l : Launch} {e : Env} {R : Room} {s : State} {m : MethodId} {args : Array Value} {below : List Frame} {meth : Method} {c : Code} {T : State} {locs : List Loc} {cells slots : Nat} {Z : State} {a0 : Array Value} (X : Stand p l e R s m args below meth c T locs cells slots) (hx : p.tables.exec = Jvm.exec) (hZ : Z.Warmed39 s.vm) (hw : ∀ d ∈ tables_1, d.before a0 Z = true) (hby : c.code = method_2_code) (hown : s.vm.findClass "com/example/libxdm/libxdm/model/XmlNamesIsWhitespacePinLaw" = some m.cls) (hret : meth.sig.returnType = some .boolean) (x w : Int32) (hv : v2_8 x = w) {fs : List Frame} (hr : ∀ (f : JFrame) (acts : List Action), f.method = m → f.locked = none → f.entered = [] → (doReturn e (T.setTop f) acts (some (.int w))).1 = T.setFrames fs) : Steps p.tables e below (T.setTop (mkF m 8 #[.val (.int x)] [])) (T.setFrames fs) := by
  change (if x < (9 : Int32) then v2_20 x else v2_14 x) = w at hv
  show Steps p.tables e below (T.setTop (mkF m 8 #[.val (.int x)] [])) _
  refine XS.iloadN X.here hx rfl (hb hby d2_8) rfl ?_
  show Steps p.tables e below (T.setTop (mkF m 9 #[.val (.int x)] [(.int x)])) _
  refine XS.bipush X.here hx rfl (hb hby d2_9) ?_
  show Steps p.tables e below (T.setTop (mkF m 11 #[.val (.int x)] [(.int (9 : Int32)), (.int x)])) _
  by_cases hc0 : x < (9 : Int32)
  · rw [if_pos hc0] at hv
    refine XS.icmpYes X.here hx rfl (pc0 := 11) (pc' := 20) rfl (hb hby d2_11) rfl (tlt hc0).1 (by decide) (by decide) ?_
    exact b2_20 X hx hZ hw hby hown hret x w hv hr
  · rw [if_neg hc0] at hv
    refine XS.icmpNo X.here hx rfl (hb hby d2_11) rfl (flt hc0).1 ?_
    exact b2_14 X hx hZ hw hby hown hret x w hv hr
def v2_6 (x : Int32) : Int32 := (1 : Int32)
set_option maxRecDepth 65536 in
set_option maxHeartbeats 40000000 in
theorem b2_6 {p : Program} {l : Launch} {e : Env} {R : Room} {s : State} {m : MethodId} {args : Array Value} {below : List Frame} {meth : Method} {c : Code} {T : State} {locs : List Loc} {cells slots : Nat} {Z : State} {a0 : Array Value} (X : Stand p l e R s m args below meth c T locs cells slots) (hx : p.tables.exec = Jvm.exec) (hZ : Z.Warmed39 s.vm) (hw : ∀ d ∈ tables_1, d.before a0 Z = true) (hby : c.code = method_2_code) (hown : s.vm.findClass "com/example/libxdm/libxdm/model/XmlNamesIsWhitespacePinLaw" = some m.cls) (hret : meth.sig.returnType = some .boolean) (x w : Int32) (hv : v2_6 x = w) {fs : List Frame} (hr : ∀ (f : JFrame) (acts : List Action), f.method = m → f.locked = none → f.entered = [] → (doReturn e (T.setTop f) acts (some (.int w))).1 = T.setFrames fs) : Steps p.tables e below (T.setTop (mkF m 6 #[.val (.int x)] [])) (T.setFrames fs) := by
  change (1 : Int32) = w at hv
  show Steps p.tables e below (T.setTop (mkF m 6 #[.val (.int x)] [])) _
  refine XS.iconst X.here hx rfl (hb hby d2_6) ?_
  show Steps p.tables e below (T.setTop (mkF m 7 #[.val (.int x)] [(.int (1 : Int32))])) _
  subst hv
  exact retN X hx (t := .boolean) hret (by simp) (hb hby d2_7) hr
def v2_0 (x : Int32) : Int32 := (if x = (32 : Int32) then v2_6 x else v2_8 x)
set_option maxRecDepth 65536 in
set_option maxHeartbeats 40000000 in
theorem b2_0 {p : Program} {l : Launch} {e : Env} {R : Room} {s : State} {m : MethodId} {args : Array Value} {below : List Frame} {meth : Method} {c : Code} {T : State} {locs : List Loc} {cells slots : Nat} {Z : State} {a0 : Array Value} (X : Stand p l e R s m args below meth c T locs cells slots) (hx : p.tables.exec = Jvm.exec) (hZ : Z.Warmed39 s.vm) (hw : ∀ d ∈ tables_1, d.before a0 Z = true) (hby : c.code = method_2_code) (hown : s.vm.findClass "com/example/libxdm/libxdm/model/XmlNamesIsWhitespacePinLaw" = some m.cls) (hret : meth.sig.returnType = some .boolean) (x w : Int32) (hv : v2_0 x = w) {fs : List Frame} (hr : ∀ (f : JFrame) (acts : List Action), f.method = m → f.locked = none → f.entered = [] → (doReturn e (T.setTop f) acts (some (.int w))).1 = T.setFrames fs) : Steps p.tables e below (T.setTop (mkF m 0 #[.val (.int x)] [])) (T.setFrames fs) := by
  change (if x = (32 : Int32) then v2_6 x else v2_8 x) = w at hv
  show Steps p.tables e below (T.setTop (mkF m 0 #[.val (.int x)] [])) _
  refine XS.iloadN X.here hx rfl (hb hby d2_0) rfl ?_
  show Steps p.tables e below (T.setTop (mkF m 1 #[.val (.int x)] [(.int x)])) _
  refine XS.bipush X.here hx rfl (hb hby d2_1) ?_
  show Steps p.tables e below (T.setTop (mkF m 3 #[.val (.int x)] [(.int (32 : Int32)), (.int x)])) _
  by_cases hc0 : x = (32 : Int32)
  · rw [if_pos hc0] at hv
    refine XS.icmpNo X.here hx rfl (hb hby d2_3) rfl (teq hc0).2 ?_
    exact b2_6 X hx hZ hw hby hown hret x w hv hr
  · rw [if_neg hc0] at hv
    refine XS.icmpYes X.here hx rfl (pc0 := 3) (pc' := 8) rfl (hb hby d2_3) rfl (feq hc0).2 (by decide) (by decide) ?_
    exact b2_8 X hx hZ hw hby hown hret x w hv hr
theorem pn_2 : plainName "com/example/libxdm/libxdm/model/XmlNamesIsWhitespacePinLaw" = true := by first | (simp [plainName, overriddenIn]; done) | decide +kernel
theorem ef_2 (m : MethodId) (x0 : Int32) : entryFrame m #[(.int x0)] 1 = mkF m 0 #[.val (.int x0)] [] := by first | (simp [entryFrame, mkF, argsToLocals, Value.category]; done) | rfl
def Q2 (Z : State) (p1 : Int32) (h0 : Heap) (n0 : Nat) (v : Option Value) (h : Heap) (L : List Loc) : Prop := v = some (.int (v2_0 p1)) ∧ Fr n0 L ∧ h = h0
set_option maxRecDepth 65536 in
set_option maxHeartbeats 40000000 in
theorem rm2 (l : Launch) (Z : State) (a0 : Array Value) (hw : ∀ d ∈ tables_1, d.before a0 Z = true) (ws : List Jvm.Cond) (p1 : Int32) (h0 : Heap) (n0 : Nat) :
    MetFree l (⟨"com/example/libxdm/libxdm/model/XmlNamesIsWhitespacePinLaw", "ref", "(I)Z"⟩ : MethodName) (head1 (Jvm.Cond.code (⟨"com/example/libxdm/libxdm/model/XmlNamesIsWhitespacePinLaw", "ref", "(I)Z"⟩ : MethodName) method_2_code 1 (some .boolean) :: ws) ({ frames := 0, cells := 0, slots := 0, locals := 0 } : Room)) (fun a U => a = #[(.int p1)] ∧ Z.Warmed39 U.vm ∧ U.heap = h0) (fun _ _ _ _ _ => True) (fun _ U o U' => ∃ v L, o = .returned v ∧ Q2 Z p1 h0 n0 v U'.heap L ∧ FrameEnd U o U' L ({ frames := 0, cells := 0, slots := 0, locals := 0 } : Room).cells ({ frames := 0, cells := 0, slots := 0, locals := 0 } : Room).slots) := by
  refine MetFree.of_bodySF (plainFor_of_name pn_2) hisR ?_
  intro p e s m args below meth c s₁ Bd hml0 hP hK
  obtain ⟨rfl, hZ, hh⟩ := hP
  have hx := Bd.exec
  have hby := Bd.bytes
  have hown : s.vm.findClass "com/example/libxdm/libxdm/model/XmlNamesIsWhitespacePinLaw" = some m.cls := findClass_of_methodNamed Bd.named
  have X0 : Stand p l e ({ frames := 0, cells := 0, slots := 0, locals := 0 } : Room) s m #[(.int p1)] below meth c s₁ [] 0 0 := Stand.of_body Bd
  have e0 : s₁.heap = h0 := by rw [← hh, Bd.state]; rfl
  have N0 := Fr.nil n0
  have pre0 : ∀ t, Steps p.tables e below (s₁.setTop (mkF m 0 #[.val (.int p1)] [])) t → Steps p.tables e below (s₁.setTop (entryFrame m #[(.int p1)] 1)) t := fun t k => castTop (ef_2 m p1) k
  obtain ⟨fs, hr, hrun, hended, hW, hsame⟩ := X0.leave (v := some (.int (v2_0 p1))) (fun h => by rw [Bd.returns] at h; cases h)
  refine ⟨_, _, pre0 _ ?_, hrun, hended, _, _, rfl, ?_, ⟨_, rfl⟩, hW, hsame.mono (by decide) (by decide)⟩
  · exact b2_0 X0 hx hZ hw hby hown Bd.returns p1 _ rfl hr
  · show Q2 Z p1 h0 n0 _ s₁.heap _
    rw [e0]
    exact ⟨rfl, N0, rfl⟩
theorem r2_0 (x : Int32) : v2_0 x = (if x = (32 : Int32) then v2_6 x else v2_8 x) := rfl
theorem r2_8 (x : Int32) : v2_8 x = (if (x < (9 : Int32)) ∨ ((13 : Int32) < x) then v2_20 x else v2_22 x) := by
  unfold v2_8 v2_14
  by_cases h1 : x < (9 : Int32) <;> by_cases h2 : (13 : Int32) < x <;> simp [h1, h2]
theorem r2_22 (x : Int32) : v2_22 x = (if (x = (11 : Int32)) ∨ (x = (12 : Int32)) then v2_38 x else v2_34 x) := by
  unfold v2_22 v2_28
  by_cases h1 : x = (11 : Int32) <;> by_cases h2 : x = (12 : Int32) <;> simp [h1, h2]
theorem r2_34 (x : Int32) : v2_34 x = (1 : Int32) := rfl
theorem r2_38 (x : Int32) : v2_38 x = (0 : Int32) := rfl
theorem r2_20 (x : Int32) : v2_20 x = (0 : Int32) := rfl
theorem r2_6 (x : Int32) : v2_6 x = (1 : Int32) := rfl
theorem d3_0 : decode prog_162_method_2_code 0 = .ok (.iload_n 0, 1) := by decide +kernel
theorem d3_1 : decode prog_162_method_2_code 1 = .ok (.bipush 9, 2) := by decide +kernel
theorem d3_3 : decode prog_162_method_2_code 3 = .ok (.if_icmp .eq 51, 3) := by decide +kernel
theorem d3_6 : decode prog_162_method_2_code 6 = .ok (.iload_n 0, 1) := by decide +kernel
theorem d3_7 : decode prog_162_method_2_code 7 = .ok (.bipush 10, 2) := by decide +kernel
theorem d3_9 : decode prog_162_method_2_code 9 = .ok (.if_icmp .eq 45, 3) := by decide +kernel
theorem d3_12 : decode prog_162_method_2_code 12 = .ok (.iload_n 0, 1) := by decide +kernel
theorem d3_13 : decode prog_162_method_2_code 13 = .ok (.bipush 13, 2) := by decide +kernel
theorem d3_15 : decode prog_162_method_2_code 15 = .ok (.if_icmp .eq 39, 3) := by decide +kernel
theorem d3_18 : decode prog_162_method_2_code 18 = .ok (.iload_n 0, 1) := by decide +kernel
theorem d3_19 : decode prog_162_method_2_code 19 = .ok (.bipush 32, 2) := by decide +kernel
theorem d3_21 : decode prog_162_method_2_code 21 = .ok (.if_icmp .lt 9, 3) := by decide +kernel
theorem d3_24 : decode prog_162_method_2_code 24 = .ok (.iload_n 0, 1) := by decide +kernel
theorem d3_25 : decode prog_162_method_2_code 25 = .ok (.ldc 7, 2) := by decide +kernel
theorem d3_27 : decode prog_162_method_2_code 27 = .ok (.if_icmp .le 27, 3) := by decide +kernel
theorem d3_30 : decode prog_162_method_2_code 30 = .ok (.iload_n 0, 1) := by decide +kernel
theorem d3_31 : decode prog_162_method_2_code 31 = .ok (.ldc 8, 2) := by decide +kernel
theorem d3_33 : decode prog_162_method_2_code 33 = .ok (.if_icmp .lt 9, 3) := by decide +kernel
theorem d3_36 : decode prog_162_method_2_code 36 = .ok (.iload_n 0, 1) := by decide +kernel
theorem d3_37 : decode prog_162_method_2_code 37 = .ok (.ldc 9, 2) := by decide +kernel
theorem d3_39 : decode prog_162_method_2_code 39 = .ok (.if_icmp .le 15, 3) := by decide +kernel
theorem d3_42 : decode prog_162_method_2_code 42 = .ok (.iload_n 0, 1) := by decide +kernel
theorem d3_43 : decode prog_162_method_2_code 43 = .ok (.ldc 10, 2) := by decide +kernel
theorem d3_45 : decode prog_162_method_2_code 45 = .ok (.if_icmp .lt 13, 3) := by decide +kernel
theorem d3_48 : decode prog_162_method_2_code 48 = .ok (.iload_n 0, 1) := by decide +kernel
theorem d3_49 : decode prog_162_method_2_code 49 = .ok (.ldc 11, 2) := by decide +kernel
theorem d3_51 : decode prog_162_method_2_code 51 = .ok (.if_icmp .gt 7, 3) := by decide +kernel
theorem d3_54 : decode prog_162_method_2_code 54 = .ok (.iconst 1, 1) := by decide +kernel
theorem d3_55 : decode prog_162_method_2_code 55 = .ok (.goto 4, 3) := by decide +kernel
theorem d3_58 : decode prog_162_method_2_code 58 = .ok (.iconst 0, 1) := by decide +kernel
theorem d3_59 : decode prog_162_method_2_code 59 = .ok (.ireturn, 1) := by decide +kernel
def v3_58 (x : Int32) : Int32 := (0 : Int32)
set_option maxRecDepth 65536 in
set_option maxHeartbeats 40000000 in
theorem b3_58 {p : Program} {l : Launch} {e : Env} {R : Room} {s : State} {m : MethodId} {args : Array Value} {below : List Frame} {meth : Method} {c : Code} {T : State} {locs : List Loc} {cells slots : Nat} {Z : State} {a0 : Array Value} (X : Stand p l e R s m args below meth c T locs cells slots) (hx : p.tables.exec = Jvm.exec) (hZ : Z.Warmed39 s.vm) (hw : ∀ d ∈ tables_1, d.before a0 Z = true) (hby : c.code = prog_162_method_2_code) (hown : s.vm.findClass "com/example/libxdm/libxdm/model/XmlNames" = some m.cls) (hret : meth.sig.returnType = some .boolean) (x w : Int32) (hv : v3_58 x = w) {fs : List Frame} (hr : ∀ (f : JFrame) (acts : List Action), f.method = m → f.locked = none → f.entered = [] → (doReturn e (T.setTop f) acts (some (.int w))).1 = T.setFrames fs) : Steps p.tables e below (T.setTop (mkF m 58 #[.val (.int x)] [])) (T.setFrames fs) := by
  change (0 : Int32) = w at hv
  show Steps p.tables e below (T.setTop (mkF m 58 #[.val (.int x)] [])) _
  refine XS.iconst X.here hx rfl (hb hby d3_58) ?_
  show Steps p.tables e below (T.setTop (mkF m 59 #[.val (.int x)] [(.int (0 : Int32))])) _
  subst hv
  exact retN X hx (t := .boolean) hret (by simp) (hb hby d3_59) hr
def v3_54 (x : Int32) : Int32 := (1 : Int32)
set_option maxRecDepth 65536 in
set_option maxHeartbeats 40000000 in
theorem b3_54 {p : Program} {l : Launch} {e : Env} {R : Room} {s : State} {m : MethodId} {args : Array Value} {below : List Frame} {meth : Method} {c : Code} {T : State} {locs : List Loc} {cells slots : Nat} {Z : State} {a0 : Array Value} (X : Stand p l e R s m args below meth c T locs cells slots) (hx : p.tables.exec = Jvm.exec) (hZ : Z.Warmed39 s.vm) (hw : ∀ d ∈ tables_1, d.before a0 Z = true) (hby : c.code = prog_162_method_2_code) (hown : s.vm.findClass "com/example/libxdm/libxdm/model/XmlNames" = some m.cls) (hret : meth.sig.returnType = some .boolean) (x w : Int32) (hv : v3_54 x = w) {fs : List Frame} (hr : ∀ (f : JFrame) (acts : List Action), f.method = m → f.locked = none → f.entered = [] → (doReturn e (T.setTop f) acts (some (.int w))).1 = T.setFrames fs) : Steps p.tables e below (T.setTop (mkF m 54 #[.val (.int x)] [])) (T.setFrames fs) := by
  change (1 : Int32) = w at hv
  show Steps p.tables e below (T.setTop (mkF m 54 #[.val (.int x)] [])) _
  refine XS.iconst X.here hx rfl (hb hby d3_54) ?_
  show Steps p.tables e below (T.setTop (mkF m 55 #[.val (.int x)] [(.int (1 : Int32))])) _
  refine XS.goto X.here hx rfl (pc0 := 55) (pc' := 59) rfl (hb hby d3_55) (by decide) (by decide) ?_
  show Steps p.tables e below (T.setTop (mkF m 59 #[.val (.int x)] [(.int (1 : Int32))])) _
  subst hv
  exact retN X hx (t := .boolean) hret (by simp) (hb hby d3_59) hr
def v3_48 (x : Int32) : Int32 := (if (1114111 : Int32) < x then v3_58 x else v3_54 x)
set_option maxRecDepth 65536 in
set_option maxHeartbeats 40000000 in
theorem b3_48 {p : Program} {l : Launch} {e : Env} {R : Room} {s : State} {m : MethodId} {args : Array Value} {below : List Frame} {meth : Method} {c : Code} {T : State} {locs : List Loc} {cells slots : Nat} {Z : State} {a0 : Array Value} (X : Stand p l e R s m args below meth c T locs cells slots) (hx : p.tables.exec = Jvm.exec) (hZ : Z.Warmed39 s.vm) (hw : ∀ d ∈ tables_1, d.before a0 Z = true) (hby : c.code = prog_162_method_2_code) (hown : s.vm.findClass "com/example/libxdm/libxdm/model/XmlNames" = some m.cls) (hret : meth.sig.returnType = some .boolean) (x w : Int32) (hv : v3_48 x = w) {fs : List Frame} (hr : ∀ (f : JFrame) (acts : List Action), f.method = m → f.locked = none → f.entered = [] → (doReturn e (T.setTop f) acts (some (.int w))).1 = T.setFrames fs) : Steps p.tables e below (T.setTop (mkF m 48 #[.val (.int x)] [])) (T.setFrames fs) := by
  change (if (1114111 : Int32) < x then v3_58 x else v3_54 x) = w at hv
  show Steps p.tables e below (T.setTop (mkF m 48 #[.val (.int x)] [])) _
  refine XS.iloadN X.here hx rfl (hb hby d3_48) rfl ?_
  show Steps p.tables e below (T.setTop (mkF m 49 #[.val (.int x)] [(.int x)])) _
  refine X.ldcI hx hown (v := (1114111 : Int32)) (mvT hZ (hw _ (List.mem_of_getElem? (i := 24) rfl))) rfl (hb hby d3_49) ?_
  show Steps p.tables e below (T.setTop (mkF m 51 #[.val (.int x)] [(.int (1114111 : Int32)), (.int x)])) _
  by_cases hc0 : (1114111 : Int32) < x
  · rw [if_pos hc0] at hv
    refine XS.icmpYes X.here hx rfl (pc0 := 51) (pc' := 58) rfl (hb hby d3_51) rfl (tlt hc0).2.2.1 (by decide) (by decide) ?_
    exact b3_58 X hx hZ hw hby hown hret x w hv hr
  · rw [if_neg hc0] at hv
    refine XS.icmpNo X.here hx rfl (hb hby d3_51) rfl (flt hc0).2.2.1 ?_
    exact b3_54 X hx hZ hw hby hown hret x w hv hr
def v3_42 (x : Int32) : Int32 := (if x < (65536 : Int32) then v3_58 x else v3_48 x)
set_option maxRecDepth 65536 in
set_option maxHeartbeats 40000000 in
theorem b3_42 {p : Program} {l : Launch} {e : Env} {R : Room} {s : State} {m : MethodId} {args : Array Value} {below : List Frame} {meth : Method} {c : Code} {T : State} {locs : List Loc} {cells slots : Nat} {Z : State} {a0 : Array Value} (X : Stand p l e R s m args below meth c T locs cells slots) (hx : p.tables.exec = Jvm.exec) (hZ : Z.Warmed39 s.vm) (hw : ∀ d ∈ tables_1, d.before a0 Z = true) (hby : c.code = prog_162_method_2_code) (hown : s.vm.findClass "com/example/libxdm/libxdm/model/XmlNames" = some m.cls) (hret : meth.sig.returnType = some .boolean) (x w : Int32) (hv : v3_42 x = w) {fs : List Frame} (hr : ∀ (f : JFrame) (acts : List Action), f.method = m → f.locked = none → f.entered = [] → (doReturn e (T.setTop f) acts (some (.int w))).1 = T.setFrames fs) : Steps p.tables e below (T.setTop (mkF m 42 #[.val (.int x)] [])) (T.setFrames fs) := by
  change (if x < (65536 : Int32) then v3_58 x else v3_48 x) = w at hv
  show Steps p.tables e below (T.setTop (mkF m 42 #[.val (.int x)] [])) _
  refine XS.iloadN X.here hx rfl (hb hby d3_42) rfl ?_
  show Steps p.tables e below (T.setTop (mkF m 43 #[.val (.int x)] [(.int x)])) _
  refine X.ldcI hx hown (v := (65536 : Int32)) (mvT hZ (hw _ (List.mem_of_getElem? (i := 20) rfl))) rfl (hb hby d3_43) ?_
  show Steps p.tables e below (T.setTop (mkF m 45 #[.val (.int x)] [(.int (65536 : Int32)), (.int x)])) _
  by_cases hc0 : x < (65536 : Int32)
  · rw [if_pos hc0] at hv
    refine XS.icmpYes X.here hx rfl (pc0 := 45) (pc' := 58) rfl (hb hby d3_45) rfl (tlt hc0).1 (by decide) (by decide) ?_
    exact b3_58 X hx hZ hw hby hown hret x w hv hr
  · rw [if_neg hc0] at hv
    refine XS.icmpNo X.here hx rfl (hb hby d3_45) rfl (flt hc0).1 ?_
    exact b3_48 X hx hZ hw hby hown hret x w hv hr
def v3_36 (x : Int32) : Int32 := (if (65533 : Int32) < x then v3_42 x else v3_54 x)
set_option maxRecDepth 65536 in
set_option maxHeartbeats 40000000 in
theorem b3_36 {p : Program} {l : Launch} {e : Env} {R : Room} {s : State} {m : MethodId} {args : Array Value} {below : List Frame} {meth : Method} {c : Code} {T : State} {locs : List Loc} {cells slots : Nat} {Z : State} {a0 : Array Value} (X : Stand p l e R s m args below meth c T locs cells slots) (hx : p.tables.exec = Jvm.exec) (hZ : Z.Warmed39 s.vm) (hw : ∀ d ∈ tables_1, d.before a0 Z = true) (hby : c.code = prog_162_method_2_code) (hown : s.vm.findClass "com/example/libxdm/libxdm/model/XmlNames" = some m.cls) (hret : meth.sig.returnType = some .boolean) (x w : Int32) (hv : v3_36 x = w) {fs : List Frame} (hr : ∀ (f : JFrame) (acts : List Action), f.method = m → f.locked = none → f.entered = [] → (doReturn e (T.setTop f) acts (some (.int w))).1 = T.setFrames fs) : Steps p.tables e below (T.setTop (mkF m 36 #[.val (.int x)] [])) (T.setFrames fs) := by
  change (if (65533 : Int32) < x then v3_42 x else v3_54 x) = w at hv
  show Steps p.tables e below (T.setTop (mkF m 36 #[.val (.int x)] [])) _
  refine XS.iloadN X.here hx rfl (hb hby d3_36) rfl ?_
  show Steps p.tables e below (T.setTop (mkF m 37 #[.val (.int x)] [(.int x)])) _
  refine X.ldcI hx hown (v := (65533 : Int32)) (mvT hZ (hw _ (List.mem_of_getElem? (i := 23) rfl))) rfl (hb hby d3_37) ?_
  show Steps p.tables e below (T.setTop (mkF m 39 #[.val (.int x)] [(.int (65533 : Int32)), (.int x)])) _
  by_cases hc0 : (65533 : Int32) < x
  · rw [if_pos hc0] at hv
    refine XS.icmpNo X.here hx rfl (hb hby d3_39) rfl (tlt hc0).2.2.2 ?_
    exact b3_42 X hx hZ hw hby hown hret x w hv hr
  · rw [if_neg hc0] at hv
    refine XS.icmpYes X.here hx rfl (pc0 := 39) (pc' := 54) rfl (hb hby d3_39) rfl (flt hc0).2.2.2 (by decide) (by decide) ?_
    exact b3_54 X hx hZ hw hby hown hret x w hv hr
def v3_30 (x : Int32) : Int32 := (if x < (57344 : Int32) then v3_42 x else v3_36 x)
set_option maxRecDepth 65536 in
set_option maxHeartbeats 40000000 in
theorem b3_30 {p : Program} {l : Launch} {e : Env} {R : Room} {s : State} {m : MethodId} {args : Array Value} {below : List Frame} {meth : Method} {c : Code} {T : State} {locs : List Loc} {cells slots : Nat} {Z : State} {a0 : Array Value} (X : Stand p l e R s m args below meth c T locs cells slots) (hx : p.tables.exec = Jvm.exec) (hZ : Z.Warmed39 s.vm) (hw : ∀ d ∈ tables_1, d.before a0 Z = true) (hby : c.code = prog_162_method_2_code) (hown : s.vm.findClass "com/example/libxdm/libxdm/model/XmlNames" = some m.cls) (hret : meth.sig.returnType = some .boolean) (x w : Int32) (hv : v3_30 x = w) {fs : List Frame} (hr : ∀ (f : JFrame) (acts : List Action), f.method = m → f.locked = none → f.entered = [] → (doReturn e (T.setTop f) acts (some (.int w))).1 = T.setFrames fs) : Steps p.tables e below (T.setTop (mkF m 30 #[.val (.int x)] [])) (T.setFrames fs) := by
  change (if x < (57344 : Int32) then v3_42 x else v3_36 x) = w at hv
  show Steps p.tables e below (T.setTop (mkF m 30 #[.val (.int x)] [])) _
  refine XS.iloadN X.here hx rfl (hb hby d3_30) rfl ?_
  show Steps p.tables e below (T.setTop (mkF m 31 #[.val (.int x)] [(.int x)])) _
  refine X.ldcI hx hown (v := (57344 : Int32)) (mvT hZ (hw _ (List.mem_of_getElem? (i := 22) rfl))) rfl (hb hby d3_31) ?_
  show Steps p.tables e below (T.setTop (mkF m 33 #[.val (.int x)] [(.int (57344 : Int32)), (.int x)])) _
  by_cases hc0 : x < (57344 : Int32)
  · rw [if_pos hc0] at hv
    refine XS.icmpYes X.here hx rfl (pc0 := 33) (pc' := 42) rfl (hb hby d3_33) rfl (tlt hc0).1 (by decide) (by decide) ?_
    exact b3_42 X hx hZ hw hby hown hret x w hv hr
  · rw [if_neg hc0] at hv
    refine XS.icmpNo X.here hx rfl (hb hby d3_33) rfl (flt hc0).1 ?_
    exact b3_36 X hx hZ hw hby hown hret x w hv hr
def v3_24 (x : Int32) : Int32 := (if (55295 : Int32) < x then v3_30 x else v3_54 x)
set_option maxRecDepth 65536 in
set_option maxHeartbeats 40000000 in
theorem b3_24 {p : Program} {l : Launch} {e : Env} {R : Room} {s : State} {m : MethodId} {args : Array Value} {below : List Frame} {meth : Method} {c : Code} {T : State} {locs : List Loc} {cells slots : Nat} {Z : State} {a0 : Array Value} (X : Stand p l e R s m args below meth c T locs cells slots) (hx : p.tables.exec = Jvm.exec) (hZ : Z.Warmed39 s.vm) (hw : ∀ d ∈ tables_1, d.before a0 Z = true) (hby : c.code = prog_162_method_2_code) (hown : s.vm.findClass "com/example/libxdm/libxdm/model/XmlNames" = some m.cls) (hret : meth.sig.returnType = some .boolean) (x w : Int32) (hv : v3_24 x = w) {fs : List Frame} (hr : ∀ (f : JFrame) (acts : List Action), f.method = m → f.locked = none → f.entered = [] → (doReturn e (T.setTop f) acts (some (.int w))).1 = T.setFrames fs) : Steps p.tables e below (T.setTop (mkF m 24 #[.val (.int x)] [])) (T.setFrames fs) := by
  change (if (55295 : Int32) < x then v3_30 x else v3_54 x) = w at hv
  show Steps p.tables e below (T.setTop (mkF m 24 #[.val (.int x)] [])) _
  refine XS.iloadN X.here hx rfl (hb hby d3_24) rfl ?_
  show Steps p.tables e below (T.setTop (mkF m 25 #[.val (.int x)] [(.int x)])) _
  refine X.ldcI hx hown (v := (55295 : Int32)) (mvT hZ (hw _ (List.mem_of_getElem? (i := 21) rfl))) rfl (hb hby d3_25) ?_
  show Steps p.tables e below (T.setTop (mkF m 27 #[.val (.int x)] [(.int (55295 : Int32)), (.int x)])) _
  by_cases hc0 : (55295 : Int32) < x
  · rw [if_pos hc0] at hv
    refine XS.icmpNo X.here hx rfl (hb hby d3_27) rfl (tlt hc0).2.2.2 ?_
    exact b3_30 X hx hZ hw hby hown hret x w hv hr
  · rw [if_neg hc0] at hv
    refine XS.icmpYes X.here hx rfl (pc0 := 27) (pc' := 54) rfl (hb hby d3_27) rfl (flt hc0).2.2.2 (by decide) (by decide) ?_
    exact b3_54 X hx hZ hw hby hown hret x w hv hr
def v3_18 (x : Int32) : Int32 := (if x < (32 : Int32) then v3_30 x else v3_24 x)
set_option maxRecDepth 65536 in
set_option maxHeartbeats 40000000 in
theorem b3_18 {p : Program} {l : Launch} {e : Env} {R : Room} {s : State} {m : MethodId} {args : Array Value} {below : List Frame} {meth : Method} {c : Code} {T : State} {locs : List Loc} {cells slots : Nat} {Z : State} {a0 : Array Value} (X : Stand p l e R s m args below meth c T locs cells slots) (hx : p.tables.exec = Jvm.exec) (hZ : Z.Warmed39 s.vm) (hw : ∀ d ∈ tables_1, d.before a0 Z = true) (hby : c.code = prog_162_method_2_code) (hown : s.vm.findClass "com/example/libxdm/libxdm/model/XmlNames" = some m.cls) (hret : meth.sig.returnType = some .boolean) (x w : Int32) (hv : v3_18 x = w) {fs : List Frame} (hr : ∀ (f : JFrame) (acts : List Action), f.method = m → f.locked = none → f.entered = [] → (doReturn e (T.setTop f) acts (some (.int w))).1 = T.setFrames fs) : Steps p.tables e below (T.setTop (mkF m 18 #[.val (.int x)] [])) (T.setFrames fs) := by
  change (if x < (32 : Int32) then v3_30 x else v3_24 x) = w at hv
  show Steps p.tables e below (T.setTop (mkF m 18 #[.val (.int x)] [])) _
  refine XS.iloadN X.here hx rfl (hb hby d3_18) rfl ?_
  show Steps p.tables e below (T.setTop (mkF m 19 #[.val (.int x)] [(.int x)])) _
  refine XS.bipush X.here hx rfl (hb hby d3_19) ?_
  show Steps p.tables e below (T.setTop (mkF m 21 #[.val (.int x)] [(.int (32 : Int32)), (.int x)])) _
  by_cases hc0 : x < (32 : Int32)
  · rw [if_pos hc0] at hv
    refine XS.icmpYes X.here hx rfl (pc0 := 21) (pc' := 30) rfl (hb hby d3_21) rfl (tlt hc0).1 (by decide) (by decide) ?_
    exact b3_30 X hx hZ hw hby hown hret x w hv hr
  · rw [if_neg hc0] at hv
    refine XS.icmpNo X.here hx rfl (hb hby d3_21) rfl (flt hc0).1 ?_
    exact b3_24 X hx hZ hw hby hown hret x w hv hr
def v3_12 (x : Int32) : Int32 := (if x = (13 : Int32) then v3_54 x else v3_18 x)
set_option maxRecDepth 65536 in
set_option maxHeartbeats 40000000 in
theorem b3_12 {p : Program} {l : Launch} {e : Env} {R : Room} {s : State} {m : MethodId} {args : Array Value} {below : List Frame} {meth : Method} {c : Code} {T : State} {locs : List Loc} {cells slots : Nat} {Z : State} {a0 : Array Value} (X : Stand p l e R s m args below meth c T locs cells slots) (hx : p.tables.exec = Jvm.exec) (hZ : Z.Warmed39 s.vm) (hw : ∀ d ∈ tables_1, d.before a0 Z = true) (hby : c.code = prog_162_method_2_code) (hown : s.vm.findClass "com/example/libxdm/libxdm/model/XmlNames" = some m.cls) (hret : meth.sig.returnType = some .boolean) (x w : Int32) (hv : v3_12 x = w) {fs : List Frame} (hr : ∀ (f : JFrame) (acts : List Action), f.method = m → f.locked = none → f.entered = [] → (doReturn e (T.setTop f) acts (some (.int w))).1 = T.setFrames fs) : Steps p.tables e below (T.setTop (mkF m 12 #[.val (.int x)] [])) (T.setFrames fs) := by
  change (if x = (13 : Int32) then v3_54 x else v3_18 x) = w at hv
  show Steps p.tables e below (T.setTop (mkF m 12 #[.val (.int x)] [])) _
  refine XS.iloadN X.here hx rfl (hb hby d3_12) rfl ?_
  show Steps p.tables e below (T.setTop (mkF m 13 #[.val (.int x)] [(.int x)])) _
  refine XS.bipush X.here hx rfl (hb hby d3_13) ?_
  show Steps p.tables e below (T.setTop (mkF m 15 #[.val (.int x)] [(.int (13 : Int32)), (.int x)])) _
  by_cases hc0 : x = (13 : Int32)
  · rw [if_pos hc0] at hv
    refine XS.icmpYes X.here hx rfl (pc0 := 15) (pc' := 54) rfl (hb hby d3_15) rfl (teq hc0).1 (by decide) (by decide) ?_
    exact b3_54 X hx hZ hw hby hown hret x w hv hr
  · rw [if_neg hc0] at hv
    refine XS.icmpNo X.here hx rfl (hb hby d3_15) rfl (feq hc0).1 ?_
    exact b3_18 X hx hZ hw hby hown hret x w hv hr
def v3_6 (x : Int32) : Int32 := (if x = (10 : Int32) then v3_54 x else v3_12 x)
set_option maxRecDepth 65536 in
set_option maxHeartbeats 40000000 in
theorem b3_6 {p : Program} {l : Launch} {e : Env} {R : Room} {s : State} {m : MethodId} {args : Array Value} {below : List Frame} {meth : Method} {c : Code} {T : State} {locs : List Loc} {cells slots : Nat} {Z : State} {a0 : Array Value} (X : Stand p l e R s m args below meth c T locs cells slots) (hx : p.tables.exec = Jvm.exec) (hZ : Z.Warmed39 s.vm) (hw : ∀ d ∈ tables_1, d.before a0 Z = true) (hby : c.code = prog_162_method_2_code) (hown : s.vm.findClass "com/example/libxdm/libxdm/model/XmlNames" = some m.cls) (hret : meth.sig.returnType = some .boolean) (x w : Int32) (hv : v3_6 x = w) {fs : List Frame} (hr : ∀ (f : JFrame) (acts : List Action), f.method = m → f.locked = none → f.entered = [] → (doReturn e (T.setTop f) acts (some (.int w))).1 = T.setFrames fs) : Steps p.tables e below (T.setTop (mkF m 6 #[.val (.int x)] [])) (T.setFrames fs) := by
  change (if x = (10 : Int32) then v3_54 x else v3_12 x) = w at hv
  show Steps p.tables e below (T.setTop (mkF m 6 #[.val (.int x)] [])) _
  refine XS.iloadN X.here hx rfl (hb hby d3_6) rfl ?_
  show Steps p.tables e below (T.setTop (mkF m 7 #[.val (.int x)] [(.int x)])) _
  refine XS.bipush X.here hx rfl (hb hby d3_7) ?_
  show Steps p.tables e below (T.setTop (mkF m 9 #[.val (.int x)] [(.int (10 : Int32)), (.int x)])) _
  by_cases hc0 : x = (10 : Int32)
  · rw [if_pos hc0] at hv
    refine XS.icmpYes X.here hx rfl (pc0 := 9) (pc' := 54) rfl (hb hby d3_9) rfl (teq hc0).1 (by decide) (by decide) ?_
    exact b3_54 X hx hZ hw hby hown hret x w hv hr
  · rw [if_neg hc0] at hv
    refine XS.icmpNo X.here hx rfl (hb hby d3_9) rfl (feq hc0).1 ?_
    exact b3_12 X hx hZ hw hby hown hret x w hv hr
def v3_0 (x : Int32) : Int32 := (if x = (9 : Int32) then v3_54 x else v3_6 x)
set_option maxRecDepth 65536 in
set_option maxHeartbeats 40000000 in
theorem b3_0 {p : Program} {l : Launch} {e : Env} {R : Room} {s : State} {m : MethodId} {args : Array Value} {below : List Frame} {meth : Method} {c : Code} {T : State} {locs : List Loc} {cells slots : Nat} {Z : State} {a0 : Array Value} (X : Stand p l e R s m args below meth c T locs cells slots) (hx : p.tables.exec = Jvm.exec) (hZ : Z.Warmed39 s.vm) (hw : ∀ d ∈ tables_1, d.before a0 Z = true) (hby : c.code = prog_162_method_2_code) (hown : s.vm.findClass "com/example/libxdm/libxdm/model/XmlNames" = some m.cls) (hret : meth.sig.returnType = some .boolean) (x w : Int32) (hv : v3_0 x = w) {fs : List Frame} (hr : ∀ (f : JFrame) (acts : List Action), f.method = m → f.locked = none → f.entered = [] → (doReturn e (T.setTop f) acts (some (.int w))).1 = T.setFrames fs) : Steps p.tables e below (T.setTop (mkF m 0 #[.val (.int x)] [])) (T.setFrames fs) := by
  change (if x = (9 : Int32) then v3_54 x else v3_6 x) = w at hv
  show Steps p.tables e below (T.setTop (mkF m 0 #[.val (.int x)] [])) _
  refine XS.iloadN X.here hx rfl (hb hby d3_0) rfl ?_
  show Steps p.tables e below (T.setTop (mkF m 1 #[.val (.int x)] [(.int x)])) _
  refine XS.bipush X.here hx rfl (hb hby d3_1) ?_
  show Steps p.tables e below (T.setTop (mkF m 3 #[.val (.int x)] [(.int (9 : Int32)), (.int x)])) _
  by_cases hc0 : x = (9 : Int32)
  · rw [if_pos hc0] at hv
    refine XS.icmpYes X.here hx rfl (pc0 := 3) (pc' := 54) rfl (hb hby d3_3) rfl (teq hc0).1 (by decide) (by decide) ?_
    exact b3_54 X hx hZ hw hby hown hret x w hv hr
  · rw [if_neg hc0] at hv
    refine XS.icmpNo X.here hx rfl (hb hby d3_3) rfl (feq hc0).1 ?_
    exact b3_6 X hx hZ hw hby hown hret x w hv hr
theorem pn_3 : plainName "com/example/libxdm/libxdm/model/XmlNames" = true := by first | (simp [plainName, overriddenIn]; done) | decide +kernel
theorem ef_3 (m : MethodId) (x0 : Int32) : entryFrame m #[(.int x0)] 1 = mkF m 0 #[.val (.int x0)] [] := by first | (simp [entryFrame, mkF, argsToLocals, Value.category]; done) | rfl
def Q3 (Z : State) (p1 : Int32) (h0 : Heap) (n0 : Nat) (v : Option Value) (h : Heap) (L : List Loc) : Prop := v = some (.int (v3_0 p1)) ∧ Fr n0 L ∧ h = h0
set_option maxRecDepth 65536 in
set_option maxHeartbeats 40000000 in
theorem rm3 (l : Launch) (Z : State) (a0 : Array Value) (hw : ∀ d ∈ tables_1, d.before a0 Z = true) (ws : List Jvm.Cond) (p1 : Int32) (h0 : Heap) (n0 : Nat) :
    MetFree l (⟨"com/example/libxdm/libxdm/model/XmlNames", "isCharacter", "(I)Z"⟩ : MethodName) (head1 (Jvm.Cond.code (⟨"com/example/libxdm/libxdm/model/XmlNames", "isCharacter", "(I)Z"⟩ : MethodName) prog_162_method_2_code 1 (some .boolean) :: ws) ({ frames := 0, cells := 0, slots := 0, locals := 0 } : Room)) (fun a U => a = #[(.int p1)] ∧ Z.Warmed39 U.vm ∧ U.heap = h0) (fun _ _ _ _ _ => True) (fun _ U o U' => ∃ v L, o = .returned v ∧ Q3 Z p1 h0 n0 v U'.heap L ∧ FrameEnd U o U' L ({ frames := 0, cells := 0, slots := 0, locals := 0 } : Room).cells ({ frames := 0, cells := 0, slots := 0, locals := 0 } : Room).slots) := by
  refine MetFree.of_bodySF (plainFor_of_name pn_3) hisR ?_
  intro p e s m args below meth c s₁ Bd hml0 hP hK
  obtain ⟨rfl, hZ, hh⟩ := hP
  have hx := Bd.exec
  have hby := Bd.bytes
  have hown : s.vm.findClass "com/example/libxdm/libxdm/model/XmlNames" = some m.cls := findClass_of_methodNamed Bd.named
  have X0 : Stand p l e ({ frames := 0, cells := 0, slots := 0, locals := 0 } : Room) s m #[(.int p1)] below meth c s₁ [] 0 0 := Stand.of_body Bd
  have e0 : s₁.heap = h0 := by rw [← hh, Bd.state]; rfl
  have N0 := Fr.nil n0
  have pre0 : ∀ t, Steps p.tables e below (s₁.setTop (mkF m 0 #[.val (.int p1)] [])) t → Steps p.tables e below (s₁.setTop (entryFrame m #[(.int p1)] 1)) t := fun t k => castTop (ef_3 m p1) k
  obtain ⟨fs, hr, hrun, hended, hW, hsame⟩ := X0.leave (v := some (.int (v3_0 p1))) (fun h => by rw [Bd.returns] at h; cases h)
  refine ⟨_, _, pre0 _ ?_, hrun, hended, _, _, rfl, ?_, ⟨_, rfl⟩, hW, hsame.mono (by decide) (by decide)⟩
  · exact b3_0 X0 hx hZ hw hby hown Bd.returns p1 _ rfl hr
  · show Q3 Z p1 h0 n0 _ s₁.heap _
    rw [e0]
    exact ⟨rfl, N0, rfl⟩
theorem r3_0 (x : Int32) : v3_0 x = (if (x = (9 : Int32)) ∨ (x = (10 : Int32)) then v3_54 x else v3_12 x) := by
  unfold v3_0 v3_6
  by_cases h1 : x = (9 : Int32) <;> by_cases h2 : x = (10 : Int32) <;> simp [h1, h2]
theorem r3_12 (x : Int32) : v3_12 x = (if x = (13 : Int32) then v3_54 x else v3_18 x) := rfl
theorem r3_18 (x : Int32) : v3_18 x = (if (x < (32 : Int32)) ∨ ((55295 : Int32) < x) then v3_30 x else v3_54 x) := by
  unfold v3_18 v3_24
  by_cases h1 : x < (32 : Int32) <;> by_cases h2 : (55295 : Int32) < x <;> simp [h1, h2]
theorem r3_54 (x : Int32) : v3_54 x = (1 : Int32) := rfl
theorem r3_30 (x : Int32) : v3_30 x = (if (x < (57344 : Int32)) ∨ ((65533 : Int32) < x) then v3_42 x else v3_54 x) := by
  unfold v3_30 v3_36
  by_cases h1 : x < (57344 : Int32) <;> by_cases h2 : (65533 : Int32) < x <;> simp [h1, h2]
theorem r3_42 (x : Int32) : v3_42 x = (if (x < (65536 : Int32)) ∨ ((1114111 : Int32) < x) then v3_58 x else v3_54 x) := by
  unfold v3_42 v3_48
  by_cases h1 : x < (65536 : Int32) <;> by_cases h2 : (1114111 : Int32) < x <;> simp [h1, h2]
theorem r3_58 (x : Int32) : v3_58 x = (0 : Int32) := rfl
theorem d5_0 : decode prog_162_method_6_code 0 = .ok (.iload_n 0, 1) := by decide +kernel
theorem d5_1 : decode prog_162_method_6_code 1 = .ok (.bipush 65, 2) := by decide +kernel
theorem d5_3 : decode prog_162_method_6_code 3 = .ok (.if_icmp .lt 9, 3) := by decide +kernel
theorem d5_6 : decode prog_162_method_6_code 6 = .ok (.iload_n 0, 1) := by decide +kernel
theorem d5_7 : decode prog_162_method_6_code 7 = .ok (.bipush 90, 2) := by decide +kernel
theorem d5_9 : decode prog_162_method_6_code 9 = .ok (.if_icmp .le 182, 3) := by decide +kernel
theorem d5_12 : decode prog_162_method_6_code 12 = .ok (.iload_n 0, 1) := by decide +kernel
theorem d5_13 : decode prog_162_method_6_code 13 = .ok (.bipush 97, 2) := by decide +kernel
theorem d5_15 : decode prog_162_method_6_code 15 = .ok (.if_icmp .lt 9, 3) := by decide +kernel
theorem d5_18 : decode prog_162_method_6_code 18 = .ok (.iload_n 0, 1) := by decide +kernel
theorem d5_19 : decode prog_162_method_6_code 19 = .ok (.bipush 122, 2) := by decide +kernel
theorem d5_21 : decode prog_162_method_6_code 21 = .ok (.if_icmp .le 170, 3) := by decide +kernel
theorem d5_24 : decode prog_162_method_6_code 24 = .ok (.iload_n 0, 1) := by decide +kernel
theorem d5_25 : decode prog_162_method_6_code 25 = .ok (.bipush 95, 2) := by decide +kernel
theorem d5_27 : decode prog_162_method_6_code 27 = .ok (.if_icmp .eq 164, 3) := by decide +kernel
theorem d5_30 : decode prog_162_method_6_code 30 = .ok (.iload_n 0, 1) := by decide +kernel
theorem d5_31 : decode prog_162_method_6_code 31 = .ok (.sipush 192, 3) := by decide +kernel
theorem d5_34 : decode prog_162_method_6_code 34 = .ok (.if_icmp .lt 10, 3) := by decide +kernel
theorem d5_37 : decode prog_162_method_6_code 37 = .ok (.iload_n 0, 1) := by decide +kernel
theorem d5_38 : decode prog_162_method_6_code 38 = .ok (.sipush 214, 3) := by decide +kernel
theorem d5_41 : decode prog_162_method_6_code 41 = .ok (.if_icmp .le 150, 3) := by decide +kernel
theorem d5_44 : decode prog_162_method_6_code 44 = .ok (.iload_n 0, 1) := by decide +kernel
theorem d5_45 : decode prog_162_method_6_code 45 = .ok (.sipush 216, 3) := by decide +kernel
theorem d5_48 : decode prog_162_method_6_code 48 = .ok (.if_icmp .lt 10, 3) := by decide +kernel
theorem d5_51 : decode prog_162_method_6_code 51 = .ok (.iload_n 0, 1) := by decide +kernel
theorem d5_52 : decode prog_162_method_6_code 52 = .ok (.sipush 246, 3) := by decide +kernel
theorem d5_55 : decode prog_162_method_6_code 55 = .ok (.if_icmp .le 136, 3) := by decide +kernel
theorem d5_58 : decode prog_162_method_6_code 58 = .ok (.iload_n 0, 1) := by decide +kernel
theorem d5_59 : decode prog_162_method_6_code 59 = .ok (.sipush 248, 3) := by decide +kernel
theorem d5_62 : decode prog_162_method_6_code 62 = .ok (.if_icmp .lt 10, 3) := by decide +kernel
theorem d5_65 : decode prog_162_method_6_code 65 = .ok (.iload_n 0, 1) := by decide +kernel
theorem d5_66 : decode prog_162_method_6_code 66 = .ok (.sipush 767, 3) := by decide +kernel
theorem d5_69 : decode prog_162_method_6_code 69 = .ok (.if_icmp .le 122, 3) := by decide +kernel
theorem d5_72 : decode prog_162_method_6_code 72 = .ok (.iload_n 0, 1) := by decide +kernel
theorem d5_73 : decode prog_162_method_6_code 73 = .ok (.sipush 880, 3) := by decide +kernel
theorem d5_76 : decode prog_162_method_6_code 76 = .ok (.if_icmp .lt 10, 3) := by decide +kernel
theorem d5_79 : decode prog_162_method_6_code 79 = .ok (.iload_n 0, 1) := by decide +kernel
theorem d5_80 : decode prog_162_method_6_code 80 = .ok (.sipush 893, 3) := by decide +kernel
theorem d5_83 : decode prog_162_method_6_code 83 = .ok (.if_icmp .le 108, 3) := by decide +kernel
theorem d5_86 : decode prog_162_method_6_code 86 = .ok (.iload_n 0, 1) := by decide +kernel
theorem d5_87 : decode prog_162_method_6_code 87 = .ok (.sipush 895, 3) := by decide +kernel
theorem d5_90 : decode prog_162_method_6_code 90 = .ok (.if_icmp .lt 10, 3) := by decide +kernel
theorem d5_93 : decode prog_162_method_6_code 93 = .ok (.iload_n 0, 1) := by decide +kernel
theorem d5_94 : decode prog_162_method_6_code 94 = .ok (.sipush 8191, 3) := by decide +kernel
theorem d5_97 : decode prog_162_method_6_code 97 = .ok (.if_icmp .le 94, 3) := by decide +kernel
theorem d5_100 : decode prog_162_method_6_code 100 = .ok (.iload_n 0, 1) := by decide +kernel
theorem d5_101 : decode prog_162_method_6_code 101 = .ok (.sipush 8204, 3) := by decide +kernel
theorem d5_104 : decode prog_162_method_6_code 104 = .ok (.if_icmp .lt 10, 3) := by decide +kernel
theorem d5_107 : decode prog_162_method_6_code 107 = .ok (.iload_n 0, 1) := by decide +kernel
theorem d5_108 : decode prog_162_method_6_code 108 = .ok (.sipush 8205, 3) := by decide +kernel
theorem d5_111 : decode prog_162_method_6_code 111 = .ok (.if_icmp .le 80, 3) := by decide +kernel
theorem d5_114 : decode prog_162_method_6_code 114 = .ok (.iload_n 0, 1) := by decide +kernel
theorem d5_115 : decode prog_162_method_6_code 115 = .ok (.sipush 8304, 3) := by decide +kernel
theorem d5_118 : decode prog_162_method_6_code 118 = .ok (.if_icmp .lt 10, 3) := by decide +kernel
theorem d5_121 : decode prog_162_method_6_code 121 = .ok (.iload_n 0, 1) := by decide +kernel
theorem d5_122 : decode prog_162_method_6_code 122 = .ok (.sipush 8591, 3) := by decide +kernel
theorem d5_125 : decode prog_162_method_6_code 125 = .ok (.if_icmp .le 66, 3) := by decide +kernel
theorem d5_128 : decode prog_162_method_6_code 128 = .ok (.iload_n 0, 1) := by decide +kernel
theorem d5_129 : decode prog_162_method_6_code 129 = .ok (.sipush 11264, 3) := by decide +kernel
theorem d5_132 : decode prog_162_method_6_code 132 = .ok (.if_icmp .lt 10, 3) := by decide +kernel
theorem d5_135 : decode prog_162_method_6_code 135 = .ok (.iload_n 0, 1) := by decide +kernel
theorem d5_136 : decode prog_162_method_6_code 136 = .ok (.sipush 12271, 3) := by decide +kernel
theorem d5_139 : decode prog_162_method_6_code 139 = .ok (.if_icmp .le 52, 3) := by decide +kernel
theorem d5_142 : decode prog_162_method_6_code 142 = .ok (.iload_n 0, 1) := by decide +kernel
theorem d5_143 : decode prog_162_method_6_code 143 = .ok (.sipush 12289, 3) := by decide +kernel
theorem d5_146 : decode prog_162_method_6_code 146 = .ok (.if_icmp .lt 9, 3) := by decide +kernel
theorem d5_149 : decode prog_162_method_6_code 149 = .ok (.iload_n 0, 1) := by decide +kernel
theorem d5_150 : decode prog_162_method_6_code 150 = .ok (.ldc 7, 2) := by decide +kernel
theorem d5_152 : decode prog_162_method_6_code 152 = .ok (.if_icmp .le 39, 3) := by decide +kernel
theorem d5_155 : decode prog_162_method_6_code 155 = .ok (.iload_n 0, 1) := by decide +kernel
theorem d5_156 : decode prog_162_method_6_code 156 = .ok (.ldc 51, 2) := by decide +kernel
theorem d5_158 : decode prog_162_method_6_code 158 = .ok (.if_icmp .lt 9, 3) := by decide +kernel
theorem d5_161 : decode prog_162_method_6_code 161 = .ok (.iload_n 0, 1) := by decide +kernel
theorem d5_162 : decode prog_162_method_6_code 162 = .ok (.ldc 52, 2) := by decide +kernel
theorem d5_164 : decode prog_162_method_6_code 164 = .ok (.if_icmp .le 27, 3) := by decide +kernel
theorem d5_167 : decode prog_162_method_6_code 167 = .ok (.iload_n 0, 1) := by decide +kernel
theorem d5_168 : decode prog_162_method_6_code 168 = .ok (.ldc 53, 2) := by decide +kernel
theorem d5_170 : decode prog_162_method_6_code 170 = .ok (.if_icmp .lt 9, 3) := by decide +kernel
theorem d5_173 : decode prog_162_method_6_code 173 = .ok (.iload_n 0, 1) := by decide +kernel
theorem d5_174 : decode prog_162_method_6_code 174 = .ok (.ldc 9, 2) := by decide +kernel
theorem d5_176 : decode prog_162_method_6_code 176 = .ok (.if_icmp .le 15, 3) := by decide +kernel
theorem d5_179 : decode prog_162_method_6_code 179 = .ok (.iload_n 0, 1) := by decide +kernel
theorem d5_180 : decode prog_162_method_6_code 180 = .ok (.ldc 10, 2) := by decide +kernel
theorem d5_182 : decode prog_162_method_6_code 182 = .ok (.if_icmp .lt 13, 3) := by decide +kernel
theorem d5_185 : decode prog_162_method_6_code 185 = .ok (.iload_n 0, 1) := by decide +kernel
theorem d5_186 : decode prog_162_method_6_code 186 = .ok (.ldc 54, 2) := by decide +kernel
theorem d5_188 : decode prog_162_method_6_code 188 = .ok (.if_icmp .gt 7, 3) := by decide +kernel
theorem d5_191 : decode prog_162_method_6_code 191 = .ok (.iconst 1, 1) := by decide +kernel
theorem d5_192 : decode prog_162_method_6_code 192 = .ok (.goto 4, 3) := by decide +kernel
theorem d5_195 : decode prog_162_method_6_code 195 = .ok (.iconst 0, 1) := by decide +kernel
theorem d5_196 : decode prog_162_method_6_code 196 = .ok (.ireturn, 1) := by decide +kernel
def v5_195 (x : Int32) : Int32 := (0 : Int32)
set_option maxRecDepth 65536 in
set_option maxHeartbeats 40000000 in
theorem b5_195 {p : Program} {l : Launch} {e : Env} {R : Room} {s : State} {m : MethodId} {args : Array Value} {below : List Frame} {meth : Method} {c : Code} {T : State} {locs : List Loc} {cells slots : Nat} {Z : State} {a0 : Array Value} (X : Stand p l e R s m args below meth c T locs cells slots) (hx : p.tables.exec = Jvm.exec) (hZ : Z.Warmed39 s.vm) (hw : ∀ d ∈ tables_1, d.before a0 Z = true) (hby : c.code = prog_162_method_6_code) (hown : s.vm.findClass "com/example/libxdm/libxdm/model/XmlNames" = some m.cls) (hret : meth.sig.returnType = some .boolean) (x w : Int32) (hv : v5_195 x = w) {fs : List Frame} (hr : ∀ (f : JFrame) (acts : List Action), f.method = m → f.locked = none → f.entered = [] → (doReturn e (T.setTop f) acts (some (.int w))).1 = T.setFrames fs) : Steps p.tables e below (T.setTop (mkF m 195 #[.val (.int x)] [])) (T.setFrames fs) := by
  change (0 : Int32) = w at hv
  show Steps p.tables e below (T.setTop (mkF m 195 #[.val (.int x)] [])) _
  refine XS.iconst X.here hx rfl (hb hby d5_195) ?_
  show Steps p.tables e below (T.setTop (mkF m 196 #[.val (.int x)] [(.int (0 : Int32))])) _
  subst hv
  exact retN X hx (t := .boolean) hret (by simp) (hb hby d5_196) hr
def v5_191 (x : Int32) : Int32 := (1 : Int32)
set_option maxRecDepth 65536 in
set_option maxHeartbeats 40000000 in
theorem b5_191 {p : Program} {l : Launch} {e : Env} {R : Room} {s : State} {m : MethodId} {args : Array Value} {below : List Frame} {meth : Method} {c : Code} {T : State} {locs : List Loc} {cells slots : Nat} {Z : State} {a0 : Array Value} (X : Stand p l e R s m args below meth c T locs cells slots) (hx : p.tables.exec = Jvm.exec) (hZ : Z.Warmed39 s.vm) (hw : ∀ d ∈ tables_1, d.before a0 Z = true) (hby : c.code = prog_162_method_6_code) (hown : s.vm.findClass "com/example/libxdm/libxdm/model/XmlNames" = some m.cls) (hret : meth.sig.returnType = some .boolean) (x w : Int32) (hv : v5_191 x = w) {fs : List Frame} (hr : ∀ (f : JFrame) (acts : List Action), f.method = m → f.locked = none → f.entered = [] → (doReturn e (T.setTop f) acts (some (.int w))).1 = T.setFrames fs) : Steps p.tables e below (T.setTop (mkF m 191 #[.val (.int x)] [])) (T.setFrames fs) := by
  change (1 : Int32) = w at hv
  show Steps p.tables e below (T.setTop (mkF m 191 #[.val (.int x)] [])) _
  refine XS.iconst X.here hx rfl (hb hby d5_191) ?_
  show Steps p.tables e below (T.setTop (mkF m 192 #[.val (.int x)] [(.int (1 : Int32))])) _
  refine XS.goto X.here hx rfl (pc0 := 192) (pc' := 196) rfl (hb hby d5_192) (by decide) (by decide) ?_
  show Steps p.tables e below (T.setTop (mkF m 196 #[.val (.int x)] [(.int (1 : Int32))])) _
  subst hv
  exact retN X hx (t := .boolean) hret (by simp) (hb hby d5_196) hr
def v5_185 (x : Int32) : Int32 := (if (983039 : Int32) < x then v5_195 x else v5_191 x)
set_option maxRecDepth 65536 in
set_option maxHeartbeats 40000000 in
theorem b5_185 {p : Program} {l : Launch} {e : Env} {R : Room} {s : State} {m : MethodId} {args : Array Value} {below : List Frame} {meth : Method} {c : Code} {T : State} {locs : List Loc} {cells slots : Nat} {Z : State} {a0 : Array Value} (X : Stand p l e R s m args below meth c T locs cells slots) (hx : p.tables.exec = Jvm.exec) (hZ : Z.Warmed39 s.vm) (hw : ∀ d ∈ tables_1, d.before a0 Z = true) (hby : c.code = prog_162_method_6_code) (hown : s.vm.findClass "com/example/libxdm/libxdm/model/XmlNames" = some m.cls) (hret : meth.sig.returnType = some .boolean) (x w : Int32) (hv : v5_185 x = w) {fs : List Frame} (hr : ∀ (f : JFrame) (acts : List Action), f.method = m → f.locked = none → f.entered = [] → (doReturn e (T.setTop f) acts (some (.int w))).1 = T.setFrames fs) : Steps p.tables e below (T.setTop (mkF m 185 #[.val (.int x)] [])) (T.setFrames fs) := by
  change (if (983039 : Int32) < x then v5_195 x else v5_191 x) = w at hv
  show Steps p.tables e below (T.setTop (mkF m 185 #[.val (.int x)] [])) _
  refine XS.iloadN X.here hx rfl (hb hby d5_185) rfl ?_
  show Steps p.tables e below (T.setTop (mkF m 186 #[.val (.int x)] [(.int x)])) _
  refine X.ldcI hx hown (v := (983039 : Int32)) (mvT hZ (hw _ (List.mem_of_getElem? (i := 26) rfl))) rfl (hb hby d5_186) ?_
  show Steps p.tables e below (T.setTop (mkF m 188 #[.val (.int x)] [(.int (983039 : Int32)), (.int x)])) _
  by_cases hc0 : (983039 : Int32) < x
  · rw [if_pos hc0] at hv
    refine XS.icmpYes X.here hx rfl (pc0 := 188) (pc' := 195) rfl (hb hby d5_188) rfl (tlt hc0).2.2.1 (by decide) (by decide) ?_
    exact b5_195 X hx hZ hw hby hown hret x w hv hr
  · rw [if_neg hc0] at hv
    refine XS.icmpNo X.here hx rfl (hb hby d5_188) rfl (flt hc0).2.2.1 ?_
    exact b5_191 X hx hZ hw hby hown hret x w hv hr
def v5_179 (x : Int32) : Int32 := (if x < (65536 : Int32) then v5_195 x else v5_185 x)
set_option maxRecDepth 65536 in
set_option maxHeartbeats 40000000 in
theorem b5_179 {p : Program} {l : Launch} {e : Env} {R : Room} {s : State} {m : MethodId} {args : Array Value} {below : List Frame} {meth : Method} {c : Code} {T : State} {locs : List Loc} {cells slots : Nat} {Z : State} {a0 : Array Value} (X : Stand p l e R s m args below meth c T locs cells slots) (hx : p.tables.exec = Jvm.exec) (hZ : Z.Warmed39 s.vm) (hw : ∀ d ∈ tables_1, d.before a0 Z = true) (hby : c.code = prog_162_method_6_code) (hown : s.vm.findClass "com/example/libxdm/libxdm/model/XmlNames" = some m.cls) (hret : meth.sig.returnType = some .boolean) (x w : Int32) (hv : v5_179 x = w) {fs : List Frame} (hr : ∀ (f : JFrame) (acts : List Action), f.method = m → f.locked = none → f.entered = [] → (doReturn e (T.setTop f) acts (some (.int w))).1 = T.setFrames fs) : Steps p.tables e below (T.setTop (mkF m 179 #[.val (.int x)] [])) (T.setFrames fs) := by
  change (if x < (65536 : Int32) then v5_195 x else v5_185 x) = w at hv
  show Steps p.tables e below (T.setTop (mkF m 179 #[.val (.int x)] [])) _
  refine XS.iloadN X.here hx rfl (hb hby d5_179) rfl ?_
  show Steps p.tables e below (T.setTop (mkF m 180 #[.val (.int x)] [(.int x)])) _
  refine X.ldcI hx hown (v := (65536 : Int32)) (mvT hZ (hw _ (List.mem_of_getElem? (i := 20) rfl))) rfl (hb hby d5_180) ?_
  show Steps p.tables e below (T.setTop (mkF m 182 #[.val (.int x)] [(.int (65536 : Int32)), (.int x)])) _
  by_cases hc0 : x < (65536 : Int32)
  · rw [if_pos hc0] at hv
    refine XS.icmpYes X.here hx rfl (pc0 := 182) (pc' := 195) rfl (hb hby d5_182) rfl (tlt hc0).1 (by decide) (by decide) ?_
    exact b5_195 X hx hZ hw hby hown hret x w hv hr
  · rw [if_neg hc0] at hv
    refine XS.icmpNo X.here hx rfl (hb hby d5_182) rfl (flt hc0).1 ?_
    exact b5_185 X hx hZ hw hby hown hret x w hv hr
def v5_173 (x : Int32) : Int32 := (if (65533 : Int32) < x then v5_179 x else v5_191 x)
set_option maxRecDepth 65536 in
set_option maxHeartbeats 40000000 in
theorem b5_173 {p : Program} {l : Launch} {e : Env} {R : Room} {s : State} {m : MethodId} {args : Array Value} {below : List Frame} {meth : Method} {c : Code} {T : State} {locs : List Loc} {cells slots : Nat} {Z : State} {a0 : Array Value} (X : Stand p l e R s m args below meth c T locs cells slots) (hx : p.tables.exec = Jvm.exec) (hZ : Z.Warmed39 s.vm) (hw : ∀ d ∈ tables_1, d.before a0 Z = true) (hby : c.code = prog_162_method_6_code) (hown : s.vm.findClass "com/example/libxdm/libxdm/model/XmlNames" = some m.cls) (hret : meth.sig.returnType = some .boolean) (x w : Int32) (hv : v5_173 x = w) {fs : List Frame} (hr : ∀ (f : JFrame) (acts : List Action), f.method = m → f.locked = none → f.entered = [] → (doReturn e (T.setTop f) acts (some (.int w))).1 = T.setFrames fs) : Steps p.tables e below (T.setTop (mkF m 173 #[.val (.int x)] [])) (T.setFrames fs) := by
  change (if (65533 : Int32) < x then v5_179 x else v5_191 x) = w at hv
  show Steps p.tables e below (T.setTop (mkF m 173 #[.val (.int x)] [])) _
  refine XS.iloadN X.here hx rfl (hb hby d5_173) rfl ?_
  show Steps p.tables e below (T.setTop (mkF m 174 #[.val (.int x)] [(.int x)])) _
  refine X.ldcI hx hown (v := (65533 : Int32)) (mvT hZ (hw _ (List.mem_of_getElem? (i := 23) rfl))) rfl (hb hby d5_174) ?_
  show Steps p.tables e below (T.setTop (mkF m 176 #[.val (.int x)] [(.int (65533 : Int32)), (.int x)])) _
  by_cases hc0 : (65533 : Int32) < x
  · rw [if_pos hc0] at hv
    refine XS.icmpNo X.here hx rfl (hb hby d5_176) rfl (tlt hc0).2.2.2 ?_
    exact b5_179 X hx hZ hw hby hown hret x w hv hr
  · rw [if_neg hc0] at hv
    refine XS.icmpYes X.here hx rfl (pc0 := 176) (pc' := 191) rfl (hb hby d5_176) rfl (flt hc0).2.2.2 (by decide) (by decide) ?_
    exact b5_191 X hx hZ hw hby hown hret x w hv hr
def v5_167 (x : Int32) : Int32 := (if x < (65008 : Int32) then v5_179 x else v5_173 x)
set_option maxRecDepth 65536 in
set_option maxHeartbeats 40000000 in
theorem b5_167 {p : Program} {l : Launch} {e : Env} {R : Room} {s : State} {m : MethodId} {args : Array Value} {below : List Frame} {meth : Method} {c : Code} {T : State} {locs : List Loc} {cells slots : Nat} {Z : State} {a0 : Array Value} (X : Stand p l e R s m args below meth c T locs cells slots) (hx : p.tables.exec = Jvm.exec) (hZ : Z.Warmed39 s.vm) (hw : ∀ d ∈ tables_1, d.before a0 Z = true) (hby : c.code = prog_162_method_6_code) (hown : s.vm.findClass "com/example/libxdm/libxdm/model/XmlNames" = some m.cls) (hret : meth.sig.returnType = some .boolean) (x w : Int32) (hv : v5_167 x = w) {fs : List Frame} (hr : ∀ (f : JFrame) (acts : List Action), f.method = m → f.locked = none → f.entered = [] → (doReturn e (T.setTop f) acts (some (.int w))).1 = T.setFrames fs) : Steps p.tables e below (T.setTop (mkF m 167 #[.val (.int x)] [])) (T.setFrames fs) := by
  change (if x < (65008 : Int32) then v5_179 x else v5_173 x) = w at hv
  show Steps p.tables e below (T.setTop (mkF m 167 #[.val (.int x)] [])) _
  refine XS.iloadN X.here hx rfl (hb hby d5_167) rfl ?_
  show Steps p.tables e below (T.setTop (mkF m 168 #[.val (.int x)] [(.int x)])) _
  refine X.ldcI hx hown (v := (65008 : Int32)) (mvT hZ (hw _ (List.mem_of_getElem? (i := 19) rfl))) rfl (hb hby d5_168) ?_
  show Steps p.tables e below (T.setTop (mkF m 170 #[.val (.int x)] [(.int (65008 : Int32)), (.int x)])) _
  by_cases hc0 : x < (65008 : Int32)
  · rw [if_pos hc0] at hv
    refine XS.icmpYes X.here hx rfl (pc0 := 170) (pc' := 179) rfl (hb hby d5_170) rfl (tlt hc0).1 (by decide) (by decide) ?_
    exact b5_179 X hx hZ hw hby hown hret x w hv hr
  · rw [if_neg hc0] at hv
    refine XS.icmpNo X.here hx rfl (hb hby d5_170) rfl (flt hc0).1 ?_
    exact b5_173 X hx hZ hw hby hown hret x w hv hr
def v5_161 (x : Int32) : Int32 := (if (64975 : Int32) < x then v5_167 x else v5_191 x)
set_option maxRecDepth 65536 in
set_option maxHeartbeats 40000000 in
theorem b5_161 {p : Program} {l : Launch} {e : Env} {R : Room} {s : State} {m : MethodId} {args : Array Value} {below : List Frame} {meth : Method} {c : Code} {T : State} {locs : List Loc} {cells slots : Nat} {Z : State} {a0 : Array Value} (X : Stand p l e R s m args below meth c T locs cells slots) (hx : p.tables.exec = Jvm.exec) (hZ : Z.Warmed39 s.vm) (hw : ∀ d ∈ tables_1, d.before a0 Z = true) (hby : c.code = prog_162_method_6_code) (hown : s.vm.findClass "com/example/libxdm/libxdm/model/XmlNames" = some m.cls) (hret : meth.sig.returnType = some .boolean) (x w : Int32) (hv : v5_161 x = w) {fs : List Frame} (hr : ∀ (f : JFrame) (acts : List Action), f.method = m → f.locked = none → f.entered = [] → (doReturn e (T.setTop f) acts (some (.int w))).1 = T.setFrames fs) : Steps p.tables e below (T.setTop (mkF m 161 #[.val (.int x)] [])) (T.setFrames fs) := by
  change (if (64975 : Int32) < x then v5_167 x else v5_191 x) = w at hv
  show Steps p.tables e below (T.setTop (mkF m 161 #[.val (.int x)] [])) _
  refine XS.iloadN X.here hx rfl (hb hby d5_161) rfl ?_
  show Steps p.tables e below (T.setTop (mkF m 162 #[.val (.int x)] [(.int x)])) _
  refine X.ldcI hx hown (v := (64975 : Int32)) (mvT hZ (hw _ (List.mem_of_getElem? (i := 25) rfl))) rfl (hb hby d5_162) ?_
  show Steps p.tables e below (T.setTop (mkF m 164 #[.val (.int x)] [(.int (64975 : Int32)), (.int x)])) _
  by_cases hc0 : (64975 : Int32) < x
  · rw [if_pos hc0] at hv
    refine XS.icmpNo X.here hx rfl (hb hby d5_164) rfl (tlt hc0).2.2.2 ?_
    exact b5_167 X hx hZ hw hby hown hret x w hv hr
  · rw [if_neg hc0] at hv
    refine XS.icmpYes X.here hx rfl (pc0 := 164) (pc' := 191) rfl (hb hby d5_164) rfl (flt hc0).2.2.2 (by decide) (by decide) ?_
    exact b5_191 X hx hZ hw hby hown hret x w hv hr
def v5_155 (x : Int32) : Int32 := (if x < (63744 : Int32) then v5_167 x else v5_161 x)
set_option maxRecDepth 65536 in
set_option maxHeartbeats 40000000 in
theorem b5_155 {p : Program} {l : Launch} {e : Env} {R : Room} {s : State} {m : MethodId} {args : Array Value} {below : List Frame} {meth : Method} {c : Code} {T : State} {locs : List Loc} {cells slots : Nat} {Z : State} {a0 : Array Value} (X : Stand p l e R s m args below meth c T locs cells slots) (hx : p.tables.exec = Jvm.exec) (hZ : Z.Warmed39 s.vm) (hw : ∀ d ∈ tables_1, d.before a0 Z = true) (hby : c.code = prog_162_method_6_code) (hown : s.vm.findClass "com/example/libxdm/libxdm/model/XmlNames" = some m.cls) (hret : meth.sig.returnType = some .boolean) (x w : Int32) (hv : v5_155 x = w) {fs : List Frame} (hr : ∀ (f : JFrame) (acts : List Action), f.method = m → f.locked = none → f.entered = [] → (doReturn e (T.setTop f) acts (some (.int w))).1 = T.setFrames fs) : Steps p.tables e below (T.setTop (mkF m 155 #[.val (.int x)] [])) (T.setFrames fs) := by
  change (if x < (63744 : Int32) then v5_167 x else v5_161 x) = w at hv
  show Steps p.tables e below (T.setTop (mkF m 155 #[.val (.int x)] [])) _
  refine XS.iloadN X.here hx rfl (hb hby d5_155) rfl ?_
  show Steps p.tables e below (T.setTop (mkF m 156 #[.val (.int x)] [(.int x)])) _
  refine X.ldcI hx hown (v := (63744 : Int32)) (mvT hZ (hw _ (List.mem_of_getElem? (i := 18) rfl))) rfl (hb hby d5_156) ?_
  show Steps p.tables e below (T.setTop (mkF m 158 #[.val (.int x)] [(.int (63744 : Int32)), (.int x)])) _
  by_cases hc0 : x < (63744 : Int32)
  · rw [if_pos hc0] at hv
    refine XS.icmpYes X.here hx rfl (pc0 := 158) (pc' := 167) rfl (hb hby d5_158) rfl (tlt hc0).1 (by decide) (by decide) ?_
    exact b5_167 X hx hZ hw hby hown hret x w hv hr
  · rw [if_neg hc0] at hv
    refine XS.icmpNo X.here hx rfl (hb hby d5_158) rfl (flt hc0).1 ?_
    exact b5_161 X hx hZ hw hby hown hret x w hv hr
def v5_149 (x : Int32) : Int32 := (if (55295 : Int32) < x then v5_155 x else v5_191 x)
set_option maxRecDepth 65536 in
set_option maxHeartbeats 40000000 in
theorem b5_149 {p : Program} {l : Launch} {e : Env} {R : Room} {s : State} {m : MethodId} {args : Array Value} {below : List Frame} {meth : Method} {c : Code} {T : State} {locs : List Loc} {cells slots : Nat} {Z : State} {a0 : Array Value} (X : Stand p l e R s m args below meth c T locs cells slots) (hx : p.tables.exec = Jvm.exec) (hZ : Z.Warmed39 s.vm) (hw : ∀ d ∈ tables_1, d.before a0 Z = true) (hby : c.code = prog_162_method_6_code) (hown : s.vm.findClass "com/example/libxdm/libxdm/model/XmlNames" = some m.cls) (hret : meth.sig.returnType = some .boolean) (x w : Int32) (hv : v5_149 x = w) {fs : List Frame} (hr : ∀ (f : JFrame) (acts : List Action), f.method = m → f.locked = none → f.entered = [] → (doReturn e (T.setTop f) acts (some (.int w))).1 = T.setFrames fs) : Steps p.tables e below (T.setTop (mkF m 149 #[.val (.int x)] [])) (T.setFrames fs) := by
  change (if (55295 : Int32) < x then v5_155 x else v5_191 x) = w at hv
  show Steps p.tables e below (T.setTop (mkF m 149 #[.val (.int x)] [])) _
  refine XS.iloadN X.here hx rfl (hb hby d5_149) rfl ?_
  show Steps p.tables e below (T.setTop (mkF m 150 #[.val (.int x)] [(.int x)])) _
  refine X.ldcI hx hown (v := (55295 : Int32)) (mvT hZ (hw _ (List.mem_of_getElem? (i := 21) rfl))) rfl (hb hby d5_150) ?_
  show Steps p.tables e below (T.setTop (mkF m 152 #[.val (.int x)] [(.int (55295 : Int32)), (.int x)])) _
  by_cases hc0 : (55295 : Int32) < x
  · rw [if_pos hc0] at hv
    refine XS.icmpNo X.here hx rfl (hb hby d5_152) rfl (tlt hc0).2.2.2 ?_
    exact b5_155 X hx hZ hw hby hown hret x w hv hr
  · rw [if_neg hc0] at hv
    refine XS.icmpYes X.here hx rfl (pc0 := 152) (pc' := 191) rfl (hb hby d5_152) rfl (flt hc0).2.2.2 (by decide) (by decide) ?_
    exact b5_191 X hx hZ hw hby hown hret x w hv hr
def v5_142 (x : Int32) : Int32 := (if x < (12289 : Int32) then v5_155 x else v5_149 x)
set_option maxRecDepth 65536 in
set_option maxHeartbeats 40000000 in
theorem b5_142 {p : Program} {l : Launch} {e : Env} {R : Room} {s : State} {m : MethodId} {args : Array Value} {below : List Frame} {meth : Method} {c : Code} {T : State} {locs : List Loc} {cells slots : Nat} {Z : State} {a0 : Array Value} (X : Stand p l e R s m args below meth c T locs cells slots) (hx : p.tables.exec = Jvm.exec) (hZ : Z.Warmed39 s.vm) (hw : ∀ d ∈ tables_1, d.before a0 Z = true) (hby : c.code = prog_162_method_6_code) (hown : s.vm.findClass "com/example/libxdm/libxdm/model/XmlNames" = some m.cls) (hret : meth.sig.returnType = some .boolean) (x w : Int32) (hv : v5_142 x = w) {fs : List Frame} (hr : ∀ (f : JFrame) (acts : List Action), f.method = m → f.locked = none → f.entered = [] → (doReturn e (T.setTop f) acts (some (.int w))).1 = T.setFrames fs) : Steps p.tables e below (T.setTop (mkF m 142 #[.val (.int x)] [])) (T.setFrames fs) := by
  change (if x < (12289 : Int32) then v5_155 x else v5_149 x) = w at hv
  show Steps p.tables e below (T.setTop (mkF m 142 #[.val (.int x)] [])) _
  refine XS.iloadN X.here hx rfl (hb hby d5_142) rfl ?_
  show Steps p.tables e below (T.setTop (mkF m 143 #[.val (.int x)] [(.int x)])) _
  refine XS.sipush X.here hx rfl (hb hby d5_143) ?_
  show Steps p.tables e below (T.setTop (mkF m 146 #[.val (.int x)] [(.int (12289 : Int32)), (.int x)])) _
  by_cases hc0 : x < (12289 : Int32)
  · rw [if_pos hc0] at hv
    refine XS.icmpYes X.here hx rfl (pc0 := 146) (pc' := 155) rfl (hb hby d5_146) rfl (tlt hc0).1 (by decide) (by decide) ?_
    exact b5_155 X hx hZ hw hby hown hret x w hv hr
  · rw [if_neg hc0] at hv
    refine XS.icmpNo X.here hx rfl (hb hby d5_146) rfl (flt hc0).1 ?_
    exact b5_149 X hx hZ hw hby hown hret x w hv hr
def v5_135 (x : Int32) : Int32 := (if (12271 : Int32) < x then v5_142 x else v5_191 x)
set_option maxRecDepth 65536 in
set_option maxHeartbeats 40000000 in
theorem b5_135 {p : Program} {l : Launch} {e : Env} {R : Room} {s : State} {m : MethodId} {args : Array Value} {below : List Frame} {meth : Method} {c : Code} {T : State} {locs : List Loc} {cells slots : Nat} {Z : State} {a0 : Array Value} (X : Stand p l e R s m args below meth c T locs cells slots) (hx : p.tables.exec = Jvm.exec) (hZ : Z.Warmed39 s.vm) (hw : ∀ d ∈ tables_1, d.before a0 Z = true) (hby : c.code = prog_162_method_6_code) (hown : s.vm.findClass "com/example/libxdm/libxdm/model/XmlNames" = some m.cls) (hret : meth.sig.returnType = some .boolean) (x w : Int32) (hv : v5_135 x = w) {fs : List Frame} (hr : ∀ (f : JFrame) (acts : List Action), f.method = m → f.locked = none → f.entered = [] → (doReturn e (T.setTop f) acts (some (.int w))).1 = T.setFrames fs) : Steps p.tables e below (T.setTop (mkF m 135 #[.val (.int x)] [])) (T.setFrames fs) := by
  change (if (12271 : Int32) < x then v5_142 x else v5_191 x) = w at hv
  show Steps p.tables e below (T.setTop (mkF m 135 #[.val (.int x)] [])) _
  refine XS.iloadN X.here hx rfl (hb hby d5_135) rfl ?_
  show Steps p.tables e below (T.setTop (mkF m 136 #[.val (.int x)] [(.int x)])) _
  refine XS.sipush X.here hx rfl (hb hby d5_136) ?_
  show Steps p.tables e below (T.setTop (mkF m 139 #[.val (.int x)] [(.int (12271 : Int32)), (.int x)])) _
  by_cases hc0 : (12271 : Int32) < x
  · rw [if_pos hc0] at hv
    refine XS.icmpNo X.here hx rfl (hb hby d5_139) rfl (tlt hc0).2.2.2 ?_
    exact b5_142 X hx hZ hw hby hown hret x w hv hr
  · rw [if_neg hc0] at hv
    refine XS.icmpYes X.here hx rfl (pc0 := 139) (pc' := 191) rfl (hb hby d5_139) rfl (flt hc0).2.2.2 (by decide) (by decide) ?_
    exact b5_191 X hx hZ hw hby hown hret x w hv hr
def v5_128 (x : Int32) : Int32 := (if x < (11264 : Int32) then v5_142 x else v5_135 x)
set_option maxRecDepth 65536 in
set_option maxHeartbeats 40000000 in
theorem b5_128 {p : Program} {l : Launch} {e : Env} {R : Room} {s : State} {m : MethodId} {args : Array Value} {below : List Frame} {meth : Method} {c : Code} {T : State} {locs : List Loc} {cells slots : Nat} {Z : State} {a0 : Array Value} (X : Stand p l e R s m args below meth c T locs cells slots) (hx : p.tables.exec = Jvm.exec) (hZ : Z.Warmed39 s.vm) (hw : ∀ d ∈ tables_1, d.before a0 Z = true) (hby : c.code = prog_162_method_6_code) (hown : s.vm.findClass "com/example/libxdm/libxdm/model/XmlNames" = some m.cls) (hret : meth.sig.returnType = some .boolean) (x w : Int32) (hv : v5_128 x = w) {fs : List Frame} (hr : ∀ (f : JFrame) (acts : List Action), f.method = m → f.locked = none → f.entered = [] → (doReturn e (T.setTop f) acts (some (.int w))).1 = T.setFrames fs) : Steps p.tables e below (T.setTop (mkF m 128 #[.val (.int x)] [])) (T.setFrames fs) := by
  change (if x < (11264 : Int32) then v5_142 x else v5_135 x) = w at hv
  show Steps p.tables e below (T.setTop (mkF m 128 #[.val (.int x)] [])) _
  refine XS.iloadN X.here hx rfl (hb hby d5_128) rfl ?_
  show Steps p.tables e below (T.setTop (mkF m 129 #[.val (.int x)] [(.int x)])) _
  refine XS.sipush X.here hx rfl (hb hby d5_129) ?_
  show Steps p.tables e below (T.setTop (mkF m 132 #[.val (.int x)] [(.int (11264 : Int32)), (.int x)])) _
  by_cases hc0 : x < (11264 : Int32)
  · rw [if_pos hc0] at hv
    refine XS.icmpYes X.here hx rfl (pc0 := 132) (pc' := 142) rfl (hb hby d5_132) rfl (tlt hc0).1 (by decide) (by decide) ?_
    exact b5_142 X hx hZ hw hby hown hret x w hv hr
  · rw [if_neg hc0] at hv
    refine XS.icmpNo X.here hx rfl (hb hby d5_132) rfl (flt hc0).1 ?_
    exact b5_135 X hx hZ hw hby hown hret x w hv hr
def v5_121 (x : Int32) : Int32 := (if (8591 : Int32) < x then v5_128 x else v5_191 x)
set_option maxRecDepth 65536 in
set_option maxHeartbeats 40000000 in
theorem b5_121 {p : Program} {l : Launch} {e : Env} {R : Room} {s : State} {m : MethodId} {args : Array Value} {below : List Frame} {meth : Method} {c : Code} {T : State} {locs : List Loc} {cells slots : Nat} {Z : State} {a0 : Array Value} (X : Stand p l e R s m args below meth c T locs cells slots) (hx : p.tables.exec = Jvm.exec) (hZ : Z.Warmed39 s.vm) (hw : ∀ d ∈ tables_1, d.before a0 Z = true) (hby : c.code = prog_162_method_6_code) (hown : s.vm.findClass "com/example/libxdm/libxdm/model/XmlNames" = some m.cls) (hret : meth.sig.returnType = some .boolean) (x w : Int32) (hv : v5_121 x = w) {fs : List Frame} (hr : ∀ (f : JFrame) (acts : List Action), f.method = m → f.locked = none → f.entered = [] → (doReturn e (T.setTop f) acts (some (.int w))).1 = T.setFrames fs) : Steps p.tables e below (T.setTop (mkF m 121 #[.val (.int x)] [])) (T.setFrames fs) := by
  change (if (8591 : Int32) < x then v5_128 x else v5_191 x) = w at hv
  show Steps p.tables e below (T.setTop (mkF m 121 #[.val (.int x)] [])) _
  refine XS.iloadN X.here hx rfl (hb hby d5_121) rfl ?_
  show Steps p.tables e below (T.setTop (mkF m 122 #[.val (.int x)] [(.int x)])) _
  refine XS.sipush X.here hx rfl (hb hby d5_122) ?_
  show Steps p.tables e below (T.setTop (mkF m 125 #[.val (.int x)] [(.int (8591 : Int32)), (.int x)])) _
  by_cases hc0 : (8591 : Int32) < x
  · rw [if_pos hc0] at hv
    refine XS.icmpNo X.here hx rfl (hb hby d5_125) rfl (tlt hc0).2.2.2 ?_
    exact b5_128 X hx hZ hw hby hown hret x w hv hr
  · rw [if_neg hc0] at hv
    refine XS.icmpYes X.here hx rfl (pc0 := 125) (pc' := 191) rfl (hb hby d5_125) rfl (flt hc0).2.2.2 (by decide) (by decide) ?_
    exact b5_191 X hx hZ hw hby hown hret x w hv hr
def v5_114 (x : Int32) : Int32 := (if x < (8304 : Int32) then v5_128 x else v5_121 x)
set_option maxRecDepth 65536 in
set_option maxHeartbeats 40000000 in
theorem b5_114 {p : Program} {l : Launch} {e : Env} {R : Room} {s : State} {m : MethodId} {args : Array Value} {below : List Frame} {meth : Method} {c : Code} {T : State} {locs : List Loc} {cells slots : Nat} {Z : State} {a0 : Array Value} (X : Stand p l e R s m args below meth c T locs cells slots) (hx : p.tables.exec = Jvm.exec) (hZ : Z.Warmed39 s.vm) (hw : ∀ d ∈ tables_1, d.before a0 Z = true) (hby : c.code = prog_162_method_6_code) (hown : s.vm.findClass "com/example/libxdm/libxdm/model/XmlNames" = some m.cls) (hret : meth.sig.returnType = some .boolean) (x w : Int32) (hv : v5_114 x = w) {fs : List Frame} (hr : ∀ (f : JFrame) (acts : List Action), f.method = m → f.locked = none → f.entered = [] → (doReturn e (T.setTop f) acts (some (.int w))).1 = T.setFrames fs) : Steps p.tables e below (T.setTop (mkF m 114 #[.val (.int x)] [])) (T.setFrames fs) := by
  change (if x < (8304 : Int32) then v5_128 x else v5_121 x) = w at hv
  show Steps p.tables e below (T.setTop (mkF m 114 #[.val (.int x)] [])) _
  refine XS.iloadN X.here hx rfl (hb hby d5_114) rfl ?_
  show Steps p.tables e below (T.setTop (mkF m 115 #[.val (.int x)] [(.int x)])) _
  refine XS.sipush X.here hx rfl (hb hby d5_115) ?_
  show Steps p.tables e below (T.setTop (mkF m 118 #[.val (.int x)] [(.int (8304 : Int32)), (.int x)])) _
  by_cases hc0 : x < (8304 : Int32)
  · rw [if_pos hc0] at hv
    refine XS.icmpYes X.here hx rfl (pc0 := 118) (pc' := 128) rfl (hb hby d5_118) rfl (tlt hc0).1 (by decide) (by decide) ?_
    exact b5_128 X hx hZ hw hby hown hret x w hv hr
  · rw [if_neg hc0] at hv
    refine XS.icmpNo X.here hx rfl (hb hby d5_118) rfl (flt hc0).1 ?_
    exact b5_121 X hx hZ hw hby hown hret x w hv hr
def v5_107 (x : Int32) : Int32 := (if (8205 : Int32) < x then v5_114 x else v5_191 x)
set_option maxRecDepth 65536 in
set_option maxHeartbeats 40000000 in
theorem b5_107 {p : Program} {l : Launch} {e : Env} {R : Room} {s : State} {m : MethodId} {args : Array Value} {below : List Frame} {meth : Method} {c : Code} {T : State} {locs : List Loc} {cells slots : Nat} {Z : State} {a0 : Array Value} (X : Stand p l e R s m args below meth c T locs cells slots) (hx : p.tables.exec = Jvm.exec) (hZ : Z.Warmed39 s.vm) (hw : ∀ d ∈ tables_1, d.before a0 Z = true) (hby : c.code = prog_162_method_6_code) (hown : s.vm.findClass "com/example/libxdm/libxdm/model/XmlNames" = some m.cls) (hret : meth.sig.returnType = some .boolean) (x w : Int32) (hv : v5_107 x = w) {fs : List Frame} (hr : ∀ (f : JFrame) (acts : List Action), f.method = m → f.locked = none → f.entered = [] → (doReturn e (T.setTop f) acts (some (.int w))).1 = T.setFrames fs) : Steps p.tables e below (T.setTop (mkF m 107 #[.val (.int x)] [])) (T.setFrames fs) := by
  change (if (8205 : Int32) < x then v5_114 x else v5_191 x) = w at hv
  show Steps p.tables e below (T.setTop (mkF m 107 #[.val (.int x)] [])) _
  refine XS.iloadN X.here hx rfl (hb hby d5_107) rfl ?_
  show Steps p.tables e below (T.setTop (mkF m 108 #[.val (.int x)] [(.int x)])) _
  refine XS.sipush X.here hx rfl (hb hby d5_108) ?_
  show Steps p.tables e below (T.setTop (mkF m 111 #[.val (.int x)] [(.int (8205 : Int32)), (.int x)])) _
  by_cases hc0 : (8205 : Int32) < x
  · rw [if_pos hc0] at hv
    refine XS.icmpNo X.here hx rfl (hb hby d5_111) rfl (tlt hc0).2.2.2 ?_
    exact b5_114 X hx hZ hw hby hown hret x w hv hr
  · rw [if_neg hc0] at hv
    refine XS.icmpYes X.here hx rfl (pc0 := 111) (pc' := 191) rfl (hb hby d5_111) rfl (flt hc0).2.2.2 (by decide) (by decide) ?_
    exact b5_191 X hx hZ hw hby hown hret x w hv hr
def v5_100 (x : Int32) : Int32 := (if x < (8204 : Int32) then v5_114 x else v5_107 x)
set_option maxRecDepth 65536 in
set_option maxHeartbeats 40000000 in
theorem b5_100 {p : Program} {l : Launch} {e : Env} {R : Room} {s : State} {m : MethodId} {args : Array Value} {below : List Frame} {meth : Method} {c : Code} {T : State} {locs : List Loc} {cells slots : Nat} {Z : State} {a0 : Array Value} (X : Stand p l e R s m args below meth c T locs cells slots) (hx : p.tables.exec = Jvm.exec) (hZ : Z.Warmed39 s.vm) (hw : ∀ d ∈ tables_1, d.before a0 Z = true) (hby : c.code = prog_162_method_6_code) (hown : s.vm.findClass "com/example/libxdm/libxdm/model/XmlNames" = some m.cls) (hret : meth.sig.returnType = some .boolean) (x w : Int32) (hv : v5_100 x = w) {fs : List Frame} (hr : ∀ (f : JFrame) (acts : List Action), f.method = m → f.locked = none → f.entered = [] → (doReturn e (T.setTop f) acts (some (.int w))).1 = T.setFrames fs) : Steps p.tables e below (T.setTop (mkF m 100 #[.val (.int x)] [])) (T.setFrames fs) := by
  change (if x < (8204 : Int32) then v5_114 x else v5_107 x) = w at hv
  show Steps p.tables e below (T.setTop (mkF m 100 #[.val (.int x)] [])) _
  refine XS.iloadN X.here hx rfl (hb hby d5_100) rfl ?_
  show Steps p.tables e below (T.setTop (mkF m 101 #[.val (.int x)] [(.int x)])) _
  refine XS.sipush X.here hx rfl (hb hby d5_101) ?_
  show Steps p.tables e below (T.setTop (mkF m 104 #[.val (.int x)] [(.int (8204 : Int32)), (.int x)])) _
  by_cases hc0 : x < (8204 : Int32)
  · rw [if_pos hc0] at hv
    refine XS.icmpYes X.here hx rfl (pc0 := 104) (pc' := 114) rfl (hb hby d5_104) rfl (tlt hc0).1 (by decide) (by decide) ?_
    exact b5_114 X hx hZ hw hby hown hret x w hv hr
  · rw [if_neg hc0] at hv
    refine XS.icmpNo X.here hx rfl (hb hby d5_104) rfl (flt hc0).1 ?_
    exact b5_107 X hx hZ hw hby hown hret x w hv hr
def v5_93 (x : Int32) : Int32 := (if (8191 : Int32) < x then v5_100 x else v5_191 x)
set_option maxRecDepth 65536 in
set_option maxHeartbeats 40000000 in
theorem b5_93 {p : Program} {l : Launch} {e : Env} {R : Room} {s : State} {m : MethodId} {args : Array Value} {below : List Frame} {meth : Method} {c : Code} {T : State} {locs : List Loc} {cells slots : Nat} {Z : State} {a0 : Array Value} (X : Stand p l e R s m args below meth c T locs cells slots) (hx : p.tables.exec = Jvm.exec) (hZ : Z.Warmed39 s.vm) (hw : ∀ d ∈ tables_1, d.before a0 Z = true) (hby : c.code = prog_162_method_6_code) (hown : s.vm.findClass "com/example/libxdm/libxdm/model/XmlNames" = some m.cls) (hret : meth.sig.returnType = some .boolean) (x w : Int32) (hv : v5_93 x = w) {fs : List Frame} (hr : ∀ (f : JFrame) (acts : List Action), f.method = m → f.locked = none → f.entered = [] → (doReturn e (T.setTop f) acts (some (.int w))).1 = T.setFrames fs) : Steps p.tables e below (T.setTop (mkF m 93 #[.val (.int x)] [])) (T.setFrames fs) := by
  change (if (8191 : Int32) < x then v5_100 x else v5_191 x) = w at hv
  show Steps p.tables e below (T.setTop (mkF m 93 #[.val (.int x)] [])) _
  refine XS.iloadN X.here hx rfl (hb hby d5_93) rfl ?_
  show Steps p.tables e below (T.setTop (mkF m 94 #[.val (.int x)] [(.int x)])) _
  refine XS.sipush X.here hx rfl (hb hby d5_94) ?_
  show Steps p.tables e below (T.setTop (mkF m 97 #[.val (.int x)] [(.int (8191 : Int32)), (.int x)])) _
  by_cases hc0 : (8191 : Int32) < x
  · rw [if_pos hc0] at hv
    refine XS.icmpNo X.here hx rfl (hb hby d5_97) rfl (tlt hc0).2.2.2 ?_
    exact b5_100 X hx hZ hw hby hown hret x w hv hr
  · rw [if_neg hc0] at hv
    refine XS.icmpYes X.here hx rfl (pc0 := 97) (pc' := 191) rfl (hb hby d5_97) rfl (flt hc0).2.2.2 (by decide) (by decide) ?_
    exact b5_191 X hx hZ hw hby hown hret x w hv hr
def v5_86 (x : Int32) : Int32 := (if x < (895 : Int32) then v5_100 x else v5_93 x)
set_option maxRecDepth 65536 in
set_option maxHeartbeats 40000000 in
theorem b5_86 {p : Program} {l : Launch} {e : Env} {R : Room} {s : State} {m : MethodId} {args : Array Value} {below : List Frame} {meth : Method} {c : Code} {T : State} {locs : List Loc} {cells slots : Nat} {Z : State} {a0 : Array Value} (X : Stand p l e R s m args below meth c T locs cells slots) (hx : p.tables.exec = Jvm.exec) (hZ : Z.Warmed39 s.vm) (hw : ∀ d ∈ tables_1, d.before a0 Z = true) (hby : c.code = prog_162_method_6_code) (hown : s.vm.findClass "com/example/libxdm/libxdm/model/XmlNames" = some m.cls) (hret : meth.sig.returnType = some .boolean) (x w : Int32) (hv : v5_86 x = w) {fs : List Frame} (hr : ∀ (f : JFrame) (acts : List Action), f.method = m → f.locked = none → f.entered = [] → (doReturn e (T.setTop f) acts (some (.int w))).1 = T.setFrames fs) : Steps p.tables e below (T.setTop (mkF m 86 #[.val (.int x)] [])) (T.setFrames fs) := by
  change (if x < (895 : Int32) then v5_100 x else v5_93 x) = w at hv
  show Steps p.tables e below (T.setTop (mkF m 86 #[.val (.int x)] [])) _
  refine XS.iloadN X.here hx rfl (hb hby d5_86) rfl ?_
  show Steps p.tables e below (T.setTop (mkF m 87 #[.val (.int x)] [(.int x)])) _
  refine XS.sipush X.here hx rfl (hb hby d5_87) ?_
  show Steps p.tables e below (T.setTop (mkF m 90 #[.val (.int x)] [(.int (895 : Int32)), (.int x)])) _
  by_cases hc0 : x < (895 : Int32)
  · rw [if_pos hc0] at hv
    refine XS.icmpYes X.here hx rfl (pc0 := 90) (pc' := 100) rfl (hb hby d5_90) rfl (tlt hc0).1 (by decide) (by decide) ?_
    exact b5_100 X hx hZ hw hby hown hret x w hv hr
  · rw [if_neg hc0] at hv
    refine XS.icmpNo X.here hx rfl (hb hby d5_90) rfl (flt hc0).1 ?_
    exact b5_93 X hx hZ hw hby hown hret x w hv hr
def v5_79 (x : Int32) : Int32 := (if (893 : Int32) < x then v5_86 x else v5_191 x)
set_option maxRecDepth 65536 in
set_option maxHeartbeats 40000000 in
theorem b5_79 {p : Program} {l : Launch} {e : Env} {R : Room} {s : State} {m : MethodId} {args : Array Value} {below : List Frame} {meth : Method} {c : Code} {T : State} {locs : List Loc} {cells slots : Nat} {Z : State} {a0 : Array Value} (X : Stand p l e R s m args below meth c T locs cells slots) (hx : p.tables.exec = Jvm.exec) (hZ : Z.Warmed39 s.vm) (hw : ∀ d ∈ tables_1, d.before a0 Z = true) (hby : c.code = prog_162_method_6_code) (hown : s.vm.findClass "com/example/libxdm/libxdm/model/XmlNames" = some m.cls) (hret : meth.sig.returnType = some .boolean) (x w : Int32) (hv : v5_79 x = w) {fs : List Frame} (hr : ∀ (f : JFrame) (acts : List Action), f.method = m → f.locked = none → f.entered = [] → (doReturn e (T.setTop f) acts (some (.int w))).1 = T.setFrames fs) : Steps p.tables e below (T.setTop (mkF m 79 #[.val (.int x)] [])) (T.setFrames fs) := by
  change (if (893 : Int32) < x then v5_86 x else v5_191 x) = w at hv
  show Steps p.tables e below (T.setTop (mkF m 79 #[.val (.int x)] [])) _
  refine XS.iloadN X.here hx rfl (hb hby d5_79) rfl ?_
  show Steps p.tables e below (T.setTop (mkF m 80 #[.val (.int x)] [(.int x)])) _
  refine XS.sipush X.here hx rfl (hb hby d5_80) ?_
  show Steps p.tables e below (T.setTop (mkF m 83 #[.val (.int x)] [(.int (893 : Int32)), (.int x)])) _
  by_cases hc0 : (893 : Int32) < x
  · rw [if_pos hc0] at hv
    refine XS.icmpNo X.here hx rfl (hb hby d5_83) rfl (tlt hc0).2.2.2 ?_
    exact b5_86 X hx hZ hw hby hown hret x w hv hr
  · rw [if_neg hc0] at hv
    refine XS.icmpYes X.here hx rfl (pc0 := 83) (pc' := 191) rfl (hb hby d5_83) rfl (flt hc0).2.2.2 (by decide) (by decide) ?_
    exact b5_191 X hx hZ hw hby hown hret x w hv hr
def v5_72 (x : Int32) : Int32 := (if x < (880 : Int32) then v5_86 x else v5_79 x)
set_option maxRecDepth 65536 in
set_option maxHeartbeats 40000000 in
theorem b5_72 {p : Program} {l : Launch} {e : Env} {R : Room} {s : State} {m : MethodId} {args : Array Value} {below : List Frame} {meth : Method} {c : Code} {T : State} {locs : List Loc} {cells slots : Nat} {Z : State} {a0 : Array Value} (X : Stand p l e R s m args below meth c T locs cells slots) (hx : p.tables.exec = Jvm.exec) (hZ : Z.Warmed39 s.vm) (hw : ∀ d ∈ tables_1, d.before a0 Z = true) (hby : c.code = prog_162_method_6_code) (hown : s.vm.findClass "com/example/libxdm/libxdm/model/XmlNames" = some m.cls) (hret : meth.sig.returnType = some .boolean) (x w : Int32) (hv : v5_72 x = w) {fs : List Frame} (hr : ∀ (f : JFrame) (acts : List Action), f.method = m → f.locked = none → f.entered = [] → (doReturn e (T.setTop f) acts (some (.int w))).1 = T.setFrames fs) : Steps p.tables e below (T.setTop (mkF m 72 #[.val (.int x)] [])) (T.setFrames fs) := by
  change (if x < (880 : Int32) then v5_86 x else v5_79 x) = w at hv
  show Steps p.tables e below (T.setTop (mkF m 72 #[.val (.int x)] [])) _
  refine XS.iloadN X.here hx rfl (hb hby d5_72) rfl ?_
  show Steps p.tables e below (T.setTop (mkF m 73 #[.val (.int x)] [(.int x)])) _
  refine XS.sipush X.here hx rfl (hb hby d5_73) ?_
  show Steps p.tables e below (T.setTop (mkF m 76 #[.val (.int x)] [(.int (880 : Int32)), (.int x)])) _
  by_cases hc0 : x < (880 : Int32)
  · rw [if_pos hc0] at hv
    refine XS.icmpYes X.here hx rfl (pc0 := 76) (pc' := 86) rfl (hb hby d5_76) rfl (tlt hc0).1 (by decide) (by decide) ?_
    exact b5_86 X hx hZ hw hby hown hret x w hv hr
  · rw [if_neg hc0] at hv
    refine XS.icmpNo X.here hx rfl (hb hby d5_76) rfl (flt hc0).1 ?_
    exact b5_79 X hx hZ hw hby hown hret x w hv hr
def v5_65 (x : Int32) : Int32 := (if (767 : Int32) < x then v5_72 x else v5_191 x)
set_option maxRecDepth 65536 in
set_option maxHeartbeats 40000000 in
theorem b5_65 {p : Program} {l : Launch} {e : Env} {R : Room} {s : State} {m : MethodId} {args : Array Value} {below : List Frame} {meth : Method} {c : Code} {T : State} {locs : List Loc} {cells slots : Nat} {Z : State} {a0 : Array Value} (X : Stand p l e R s m args below meth c T locs cells slots) (hx : p.tables.exec = Jvm.exec) (hZ : Z.Warmed39 s.vm) (hw : ∀ d ∈ tables_1, d.before a0 Z = true) (hby : c.code = prog_162_method_6_code) (hown : s.vm.findClass "com/example/libxdm/libxdm/model/XmlNames" = some m.cls) (hret : meth.sig.returnType = some .boolean) (x w : Int32) (hv : v5_65 x = w) {fs : List Frame} (hr : ∀ (f : JFrame) (acts : List Action), f.method = m → f.locked = none → f.entered = [] → (doReturn e (T.setTop f) acts (some (.int w))).1 = T.setFrames fs) : Steps p.tables e below (T.setTop (mkF m 65 #[.val (.int x)] [])) (T.setFrames fs) := by
  change (if (767 : Int32) < x then v5_72 x else v5_191 x) = w at hv
  show Steps p.tables e below (T.setTop (mkF m 65 #[.val (.int x)] [])) _
  refine XS.iloadN X.here hx rfl (hb hby d5_65) rfl ?_
  show Steps p.tables e below (T.setTop (mkF m 66 #[.val (.int x)] [(.int x)])) _
  refine XS.sipush X.here hx rfl (hb hby d5_66) ?_
  show Steps p.tables e below (T.setTop (mkF m 69 #[.val (.int x)] [(.int (767 : Int32)), (.int x)])) _
  by_cases hc0 : (767 : Int32) < x
  · rw [if_pos hc0] at hv
    refine XS.icmpNo X.here hx rfl (hb hby d5_69) rfl (tlt hc0).2.2.2 ?_
    exact b5_72 X hx hZ hw hby hown hret x w hv hr
  · rw [if_neg hc0] at hv
    refine XS.icmpYes X.here hx rfl (pc0 := 69) (pc' := 191) rfl (hb hby d5_69) rfl (flt hc0).2.2.2 (by decide) (by decide) ?_
    exact b5_191 X hx hZ hw hby hown hret x w hv hr
def v5_58 (x : Int32) : Int32 := (if x < (248 : Int32) then v5_72 x else v5_65 x)
set_option maxRecDepth 65536 in
set_option maxHeartbeats 40000000 in
theorem b5_58 {p : Program} {l : Launch} {e : Env} {R : Room} {s : State} {m : MethodId} {args : Array Value} {below : List Frame} {meth : Method} {c : Code} {T : State} {locs : List Loc} {cells slots : Nat} {Z : State} {a0 : Array Value} (X : Stand p l e R s m args below meth c T locs cells slots) (hx : p.tables.exec = Jvm.exec) (hZ : Z.Warmed39 s.vm) (hw : ∀ d ∈ tables_1, d.before a0 Z = true) (hby : c.code = prog_162_method_6_code) (hown : s.vm.findClass "com/example/libxdm/libxdm/model/XmlNames" = some m.cls) (hret : meth.sig.returnType = some .boolean) (x w : Int32) (hv : v5_58 x = w) {fs : List Frame} (hr : ∀ (f : JFrame) (acts : List Action), f.method = m → f.locked = none → f.entered = [] → (doReturn e (T.setTop f) acts (some (.int w))).1 = T.setFrames fs) : Steps p.tables e below (T.setTop (mkF m 58 #[.val (.int x)] [])) (T.setFrames fs) := by
  change (if x < (248 : Int32) then v5_72 x else v5_65 x) = w at hv
  show Steps p.tables e below (T.setTop (mkF m 58 #[.val (.int x)] [])) _
  refine XS.iloadN X.here hx rfl (hb hby d5_58) rfl ?_
  show Steps p.tables e below (T.setTop (mkF m 59 #[.val (.int x)] [(.int x)])) _
  refine XS.sipush X.here hx rfl (hb hby d5_59) ?_
  show Steps p.tables e below (T.setTop (mkF m 62 #[.val (.int x)] [(.int (248 : Int32)), (.int x)])) _
  by_cases hc0 : x < (248 : Int32)
  · rw [if_pos hc0] at hv
    refine XS.icmpYes X.here hx rfl (pc0 := 62) (pc' := 72) rfl (hb hby d5_62) rfl (tlt hc0).1 (by decide) (by decide) ?_
    exact b5_72 X hx hZ hw hby hown hret x w hv hr
  · rw [if_neg hc0] at hv
    refine XS.icmpNo X.here hx rfl (hb hby d5_62) rfl (flt hc0).1 ?_
    exact b5_65 X hx hZ hw hby hown hret x w hv hr
def v5_51 (x : Int32) : Int32 := (if (246 : Int32) < x then v5_58 x else v5_191 x)
set_option maxRecDepth 65536 in
set_option maxHeartbeats 40000000 in
theorem b5_51 {p : Program} {l : Launch} {e : Env} {R : Room} {s : State} {m : MethodId} {args : Array Value} {below : List Frame} {meth : Method} {c : Code} {T : State} {locs : List Loc} {cells slots : Nat} {Z : State} {a0 : Array Value} (X : Stand p l e R s m args below meth c T locs cells slots) (hx : p.tables.exec = Jvm.exec) (hZ : Z.Warmed39 s.vm) (hw : ∀ d ∈ tables_1, d.before a0 Z = true) (hby : c.code = prog_162_method_6_code) (hown : s.vm.findClass "com/example/libxdm/libxdm/model/XmlNames" = some m.cls) (hret : meth.sig.returnType = some .boolean) (x w : Int32) (hv : v5_51 x = w) {fs : List Frame} (hr : ∀ (f : JFrame) (acts : List Action), f.method = m → f.locked = none → f.entered = [] → (doReturn e (T.setTop f) acts (some (.int w))).1 = T.setFrames fs) : Steps p.tables e below (T.setTop (mkF m 51 #[.val (.int x)] [])) (T.setFrames fs) := by
  change (if (246 : Int32) < x then v5_58 x else v5_191 x) = w at hv
  show Steps p.tables e below (T.setTop (mkF m 51 #[.val (.int x)] [])) _
  refine XS.iloadN X.here hx rfl (hb hby d5_51) rfl ?_
  show Steps p.tables e below (T.setTop (mkF m 52 #[.val (.int x)] [(.int x)])) _
  refine XS.sipush X.here hx rfl (hb hby d5_52) ?_
  show Steps p.tables e below (T.setTop (mkF m 55 #[.val (.int x)] [(.int (246 : Int32)), (.int x)])) _
  by_cases hc0 : (246 : Int32) < x
  · rw [if_pos hc0] at hv
    refine XS.icmpNo X.here hx rfl (hb hby d5_55) rfl (tlt hc0).2.2.2 ?_
    exact b5_58 X hx hZ hw hby hown hret x w hv hr
  · rw [if_neg hc0] at hv
    refine XS.icmpYes X.here hx rfl (pc0 := 55) (pc' := 191) rfl (hb hby d5_55) rfl (flt hc0).2.2.2 (by decide) (by decide) ?_
    exact b5_191 X hx hZ hw hby hown hret x w hv hr
def v5_44 (x : Int32) : Int32 := (if x < (216 : Int32) then v5_58 x else v5_51 x)
set_option maxRecDepth 65536 in
set_option maxHeartbeats 40000000 in
theorem b5_44 {p : Program} {l : Launch} {e : Env} {R : Room} {s : State} {m : MethodId} {args : Array Value} {below : List Frame} {meth : Method} {c : Code} {T : State} {locs : List Loc} {cells slots : Nat} {Z : State} {a0 : Array Value} (X : Stand p l e R s m args below meth c T locs cells slots) (hx : p.tables.exec = Jvm.exec) (hZ : Z.Warmed39 s.vm) (hw : ∀ d ∈ tables_1, d.before a0 Z = true) (hby : c.code = prog_162_method_6_code) (hown : s.vm.findClass "com/example/libxdm/libxdm/model/XmlNames" = some m.cls) (hret : meth.sig.returnType = some .boolean) (x w : Int32) (hv : v5_44 x = w) {fs : List Frame} (hr : ∀ (f : JFrame) (acts : List Action), f.method = m → f.locked = none → f.entered = [] → (doReturn e (T.setTop f) acts (some (.int w))).1 = T.setFrames fs) : Steps p.tables e below (T.setTop (mkF m 44 #[.val (.int x)] [])) (T.setFrames fs) := by
  change (if x < (216 : Int32) then v5_58 x else v5_51 x) = w at hv
  show Steps p.tables e below (T.setTop (mkF m 44 #[.val (.int x)] [])) _
  refine XS.iloadN X.here hx rfl (hb hby d5_44) rfl ?_
  show Steps p.tables e below (T.setTop (mkF m 45 #[.val (.int x)] [(.int x)])) _
  refine XS.sipush X.here hx rfl (hb hby d5_45) ?_
  show Steps p.tables e below (T.setTop (mkF m 48 #[.val (.int x)] [(.int (216 : Int32)), (.int x)])) _
  by_cases hc0 : x < (216 : Int32)
  · rw [if_pos hc0] at hv
    refine XS.icmpYes X.here hx rfl (pc0 := 48) (pc' := 58) rfl (hb hby d5_48) rfl (tlt hc0).1 (by decide) (by decide) ?_
    exact b5_58 X hx hZ hw hby hown hret x w hv hr
  · rw [if_neg hc0] at hv
    refine XS.icmpNo X.here hx rfl (hb hby d5_48) rfl (flt hc0).1 ?_
    exact b5_51 X hx hZ hw hby hown hret x w hv hr
def v5_37 (x : Int32) : Int32 := (if (214 : Int32) < x then v5_44 x else v5_191 x)
set_option maxRecDepth 65536 in
set_option maxHeartbeats 40000000 in
theorem b5_37 {p : Program} {l : Launch} {e : Env} {R : Room} {s : State} {m : MethodId} {args : Array Value} {below : List Frame} {meth : Method} {c : Code} {T : State} {locs : List Loc} {cells slots : Nat} {Z : State} {a0 : Array Value} (X : Stand p l e R s m args below meth c T locs cells slots) (hx : p.tables.exec = Jvm.exec) (hZ : Z.Warmed39 s.vm) (hw : ∀ d ∈ tables_1, d.before a0 Z = true) (hby : c.code = prog_162_method_6_code) (hown : s.vm.findClass "com/example/libxdm/libxdm/model/XmlNames" = some m.cls) (hret : meth.sig.returnType = some .boolean) (x w : Int32) (hv : v5_37 x = w) {fs : List Frame} (hr : ∀ (f : JFrame) (acts : List Action), f.method = m → f.locked = none → f.entered = [] → (doReturn e (T.setTop f) acts (some (.int w))).1 = T.setFrames fs) : Steps p.tables e below (T.setTop (mkF m 37 #[.val (.int x)] [])) (T.setFrames fs) := by
  change (if (214 : Int32) < x then v5_44 x else v5_191 x) = w at hv
  show Steps p.tables e below (T.setTop (mkF m 37 #[.val (.int x)] [])) _
  refine XS.iloadN X.here hx rfl (hb hby d5_37) rfl ?_
  show Steps p.tables e below (T.setTop (mkF m 38 #[.val (.int x)] [(.int x)])) _
  refine XS.sipush X.here hx rfl (hb hby d5_38) ?_
  show Steps p.tables e below (T.setTop (mkF m 41 #[.val (.int x)] [(.int (214 : Int32)), (.int x)])) _
  by_cases hc0 : (214 : Int32) < x
  · rw [if_pos hc0] at hv
    refine XS.icmpNo X.here hx rfl (hb hby d5_41) rfl (tlt hc0).2.2.2 ?_
    exact b5_44 X hx hZ hw hby hown hret x w hv hr
  · rw [if_neg hc0] at hv
    refine XS.icmpYes X.here hx rfl (pc0 := 41) (pc' := 191) rfl (hb hby d5_41) rfl (flt hc0).2.2.2 (by decide) (by decide) ?_
    exact b5_191 X hx hZ hw hby hown hret x w hv hr
def v5_30 (x : Int32) : Int32 := (if x < (192 : Int32) then v5_44 x else v5_37 x)
set_option maxRecDepth 65536 in
set_option maxHeartbeats 40000000 in
theorem b5_30 {p : Program} {l : Launch} {e : Env} {R : Room} {s : State} {m : MethodId} {args : Array Value} {below : List Frame} {meth : Method} {c : Code} {T : State} {locs : List Loc} {cells slots : Nat} {Z : State} {a0 : Array Value} (X : Stand p l e R s m args below meth c T locs cells slots) (hx : p.tables.exec = Jvm.exec) (hZ : Z.Warmed39 s.vm) (hw : ∀ d ∈ tables_1, d.before a0 Z = true) (hby : c.code = prog_162_method_6_code) (hown : s.vm.findClass "com/example/libxdm/libxdm/model/XmlNames" = some m.cls) (hret : meth.sig.returnType = some .boolean) (x w : Int32) (hv : v5_30 x = w) {fs : List Frame} (hr : ∀ (f : JFrame) (acts : List Action), f.method = m → f.locked = none → f.entered = [] → (doReturn e (T.setTop f) acts (some (.int w))).1 = T.setFrames fs) : Steps p.tables e below (T.setTop (mkF m 30 #[.val (.int x)] [])) (T.setFrames fs) := by
  change (if x < (192 : Int32) then v5_44 x else v5_37 x) = w at hv
  show Steps p.tables e below (T.setTop (mkF m 30 #[.val (.int x)] [])) _
  refine XS.iloadN X.here hx rfl (hb hby d5_30) rfl ?_
  show Steps p.tables e below (T.setTop (mkF m 31 #[.val (.int x)] [(.int x)])) _
  refine XS.sipush X.here hx rfl (hb hby d5_31) ?_
  show Steps p.tables e below (T.setTop (mkF m 34 #[.val (.int x)] [(.int (192 : Int32)), (.int x)])) _
  by_cases hc0 : x < (192 : Int32)
  · rw [if_pos hc0] at hv
    refine XS.icmpYes X.here hx rfl (pc0 := 34) (pc' := 44) rfl (hb hby d5_34) rfl (tlt hc0).1 (by decide) (by decide) ?_
    exact b5_44 X hx hZ hw hby hown hret x w hv hr
  · rw [if_neg hc0] at hv
    refine XS.icmpNo X.here hx rfl (hb hby d5_34) rfl (flt hc0).1 ?_
    exact b5_37 X hx hZ hw hby hown hret x w hv hr
def v5_24 (x : Int32) : Int32 := (if x = (95 : Int32) then v5_191 x else v5_30 x)
set_option maxRecDepth 65536 in
set_option maxHeartbeats 40000000 in
theorem b5_24 {p : Program} {l : Launch} {e : Env} {R : Room} {s : State} {m : MethodId} {args : Array Value} {below : List Frame} {meth : Method} {c : Code} {T : State} {locs : List Loc} {cells slots : Nat} {Z : State} {a0 : Array Value} (X : Stand p l e R s m args below meth c T locs cells slots) (hx : p.tables.exec = Jvm.exec) (hZ : Z.Warmed39 s.vm) (hw : ∀ d ∈ tables_1, d.before a0 Z = true) (hby : c.code = prog_162_method_6_code) (hown : s.vm.findClass "com/example/libxdm/libxdm/model/XmlNames" = some m.cls) (hret : meth.sig.returnType = some .boolean) (x w : Int32) (hv : v5_24 x = w) {fs : List Frame} (hr : ∀ (f : JFrame) (acts : List Action), f.method = m → f.locked = none → f.entered = [] → (doReturn e (T.setTop f) acts (some (.int w))).1 = T.setFrames fs) : Steps p.tables e below (T.setTop (mkF m 24 #[.val (.int x)] [])) (T.setFrames fs) := by
  change (if x = (95 : Int32) then v5_191 x else v5_30 x) = w at hv
  show Steps p.tables e below (T.setTop (mkF m 24 #[.val (.int x)] [])) _
  refine XS.iloadN X.here hx rfl (hb hby d5_24) rfl ?_
  show Steps p.tables e below (T.setTop (mkF m 25 #[.val (.int x)] [(.int x)])) _
  refine XS.bipush X.here hx rfl (hb hby d5_25) ?_
  show Steps p.tables e below (T.setTop (mkF m 27 #[.val (.int x)] [(.int (95 : Int32)), (.int x)])) _
  by_cases hc0 : x = (95 : Int32)
  · rw [if_pos hc0] at hv
    refine XS.icmpYes X.here hx rfl (pc0 := 27) (pc' := 191) rfl (hb hby d5_27) rfl (teq hc0).1 (by decide) (by decide) ?_
    exact b5_191 X hx hZ hw hby hown hret x w hv hr
  · rw [if_neg hc0] at hv
    refine XS.icmpNo X.here hx rfl (hb hby d5_27) rfl (feq hc0).1 ?_
    exact b5_30 X hx hZ hw hby hown hret x w hv hr
def v5_18 (x : Int32) : Int32 := (if (122 : Int32) < x then v5_24 x else v5_191 x)
set_option maxRecDepth 65536 in
set_option maxHeartbeats 40000000 in
theorem b5_18 {p : Program} {l : Launch} {e : Env} {R : Room} {s : State} {m : MethodId} {args : Array Value} {below : List Frame} {meth : Method} {c : Code} {T : State} {locs : List Loc} {cells slots : Nat} {Z : State} {a0 : Array Value} (X : Stand p l e R s m args below meth c T locs cells slots) (hx : p.tables.exec = Jvm.exec) (hZ : Z.Warmed39 s.vm) (hw : ∀ d ∈ tables_1, d.before a0 Z = true) (hby : c.code = prog_162_method_6_code) (hown : s.vm.findClass "com/example/libxdm/libxdm/model/XmlNames" = some m.cls) (hret : meth.sig.returnType = some .boolean) (x w : Int32) (hv : v5_18 x = w) {fs : List Frame} (hr : ∀ (f : JFrame) (acts : List Action), f.method = m → f.locked = none → f.entered = [] → (doReturn e (T.setTop f) acts (some (.int w))).1 = T.setFrames fs) : Steps p.tables e below (T.setTop (mkF m 18 #[.val (.int x)] [])) (T.setFrames fs) := by
  change (if (122 : Int32) < x then v5_24 x else v5_191 x) = w at hv
  show Steps p.tables e below (T.setTop (mkF m 18 #[.val (.int x)] [])) _
  refine XS.iloadN X.here hx rfl (hb hby d5_18) rfl ?_
  show Steps p.tables e below (T.setTop (mkF m 19 #[.val (.int x)] [(.int x)])) _
  refine XS.bipush X.here hx rfl (hb hby d5_19) ?_
  show Steps p.tables e below (T.setTop (mkF m 21 #[.val (.int x)] [(.int (122 : Int32)), (.int x)])) _
  by_cases hc0 : (122 : Int32) < x
  · rw [if_pos hc0] at hv
    refine XS.icmpNo X.here hx rfl (hb hby d5_21) rfl (tlt hc0).2.2.2 ?_
    exact b5_24 X hx hZ hw hby hown hret x w hv hr
  · rw [if_neg hc0] at hv
    refine XS.icmpYes X.here hx rfl (pc0 := 21) (pc' := 191) rfl (hb hby d5_21) rfl (flt hc0).2.2.2 (by decide) (by decide) ?_
    exact b5_191 X hx hZ hw hby hown hret x w hv hr
def v5_12 (x : Int32) : Int32 := (if x < (97 : Int32) then v5_24 x else v5_18 x)
set_option maxRecDepth 65536 in
set_option maxHeartbeats 40000000 in
theorem b5_12 {p : Program} {l : Launch} {e : Env} {R : Room} {s : State} {m : MethodId} {args : Array Value} {below : List Frame} {meth : Method} {c : Code} {T : State} {locs : List Loc} {cells slots : Nat} {Z : State} {a0 : Array Value} (X : Stand p l e R s m args below meth c T locs cells slots) (hx : p.tables.exec = Jvm.exec) (hZ : Z.Warmed39 s.vm) (hw : ∀ d ∈ tables_1, d.before a0 Z = true) (hby : c.code = prog_162_method_6_code) (hown : s.vm.findClass "com/example/libxdm/libxdm/model/XmlNames" = some m.cls) (hret : meth.sig.returnType = some .boolean) (x w : Int32) (hv : v5_12 x = w) {fs : List Frame} (hr : ∀ (f : JFrame) (acts : List Action), f.method = m → f.locked = none → f.entered = [] → (doReturn e (T.setTop f) acts (some (.int w))).1 = T.setFrames fs) : Steps p.tables e below (T.setTop (mkF m 12 #[.val (.int x)] [])) (T.setFrames fs) := by
  change (if x < (97 : Int32) then v5_24 x else v5_18 x) = w at hv
  show Steps p.tables e below (T.setTop (mkF m 12 #[.val (.int x)] [])) _
  refine XS.iloadN X.here hx rfl (hb hby d5_12) rfl ?_
  show Steps p.tables e below (T.setTop (mkF m 13 #[.val (.int x)] [(.int x)])) _
  refine XS.bipush X.here hx rfl (hb hby d5_13) ?_
  show Steps p.tables e below (T.setTop (mkF m 15 #[.val (.int x)] [(.int (97 : Int32)), (.int x)])) _
  by_cases hc0 : x < (97 : Int32)
  · rw [if_pos hc0] at hv
    refine XS.icmpYes X.here hx rfl (pc0 := 15) (pc' := 24) rfl (hb hby d5_15) rfl (tlt hc0).1 (by decide) (by decide) ?_
    exact b5_24 X hx hZ hw hby hown hret x w hv hr
  · rw [if_neg hc0] at hv
    refine XS.icmpNo X.here hx rfl (hb hby d5_15) rfl (flt hc0).1 ?_
    exact b5_18 X hx hZ hw hby hown hret x w hv hr
def v5_6 (x : Int32) : Int32 := (if (90 : Int32) < x then v5_12 x else v5_191 x)
set_option maxRecDepth 65536 in
set_option maxHeartbeats 40000000 in
theorem b5_6 {p : Program} {l : Launch} {e : Env} {R : Room} {s : State} {m : MethodId} {args : Array Value} {below : List Frame} {meth : Method} {c : Code} {T : State} {locs : List Loc} {cells slots : Nat} {Z : State} {a0 : Array Value} (X : Stand p l e R s m args below meth c T locs cells slots) (hx : p.tables.exec = Jvm.exec) (hZ : Z.Warmed39 s.vm) (hw : ∀ d ∈ tables_1, d.before a0 Z = true) (hby : c.code = prog_162_method_6_code) (hown : s.vm.findClass "com/example/libxdm/libxdm/model/XmlNames" = some m.cls) (hret : meth.sig.returnType = some .boolean) (x w : Int32) (hv : v5_6 x = w) {fs : List Frame} (hr : ∀ (f : JFrame) (acts : List Action), f.method = m → f.locked = none → f.entered = [] → (doReturn e (T.setTop f) acts (some (.int w))).1 = T.setFrames fs) : Steps p.tables e below (T.setTop (mkF m 6 #[.val (.int x)] [])) (T.setFrames fs) := by
  change (if (90 : Int32) < x then v5_12 x else v5_191 x) = w at hv
  show Steps p.tables e below (T.setTop (mkF m 6 #[.val (.int x)] [])) _
  refine XS.iloadN X.here hx rfl (hb hby d5_6) rfl ?_
  show Steps p.tables e below (T.setTop (mkF m 7 #[.val (.int x)] [(.int x)])) _
  refine XS.bipush X.here hx rfl (hb hby d5_7) ?_
  show Steps p.tables e below (T.setTop (mkF m 9 #[.val (.int x)] [(.int (90 : Int32)), (.int x)])) _
  by_cases hc0 : (90 : Int32) < x
  · rw [if_pos hc0] at hv
    refine XS.icmpNo X.here hx rfl (hb hby d5_9) rfl (tlt hc0).2.2.2 ?_
    exact b5_12 X hx hZ hw hby hown hret x w hv hr
  · rw [if_neg hc0] at hv
    refine XS.icmpYes X.here hx rfl (pc0 := 9) (pc' := 191) rfl (hb hby d5_9) rfl (flt hc0).2.2.2 (by decide) (by decide) ?_
    exact b5_191 X hx hZ hw hby hown hret x w hv hr
def v5_0 (x : Int32) : Int32 := (if x < (65 : Int32) then v5_12 x else v5_6 x)
set_option maxRecDepth 65536 in
set_option maxHeartbeats 40000000 in
theorem b5_0 {p : Program} {l : Launch} {e : Env} {R : Room} {s : State} {m : MethodId} {args : Array Value} {below : List Frame} {meth : Method} {c : Code} {T : State} {locs : List Loc} {cells slots : Nat} {Z : State} {a0 : Array Value} (X : Stand p l e R s m args below meth c T locs cells slots) (hx : p.tables.exec = Jvm.exec) (hZ : Z.Warmed39 s.vm) (hw : ∀ d ∈ tables_1, d.before a0 Z = true) (hby : c.code = prog_162_method_6_code) (hown : s.vm.findClass "com/example/libxdm/libxdm/model/XmlNames" = some m.cls) (hret : meth.sig.returnType = some .boolean) (x w : Int32) (hv : v5_0 x = w) {fs : List Frame} (hr : ∀ (f : JFrame) (acts : List Action), f.method = m → f.locked = none → f.entered = [] → (doReturn e (T.setTop f) acts (some (.int w))).1 = T.setFrames fs) : Steps p.tables e below (T.setTop (mkF m 0 #[.val (.int x)] [])) (T.setFrames fs) := by
  change (if x < (65 : Int32) then v5_12 x else v5_6 x) = w at hv
  show Steps p.tables e below (T.setTop (mkF m 0 #[.val (.int x)] [])) _
  refine XS.iloadN X.here hx rfl (hb hby d5_0) rfl ?_
  show Steps p.tables e below (T.setTop (mkF m 1 #[.val (.int x)] [(.int x)])) _
  refine XS.bipush X.here hx rfl (hb hby d5_1) ?_
  show Steps p.tables e below (T.setTop (mkF m 3 #[.val (.int x)] [(.int (65 : Int32)), (.int x)])) _
  by_cases hc0 : x < (65 : Int32)
  · rw [if_pos hc0] at hv
    refine XS.icmpYes X.here hx rfl (pc0 := 3) (pc' := 12) rfl (hb hby d5_3) rfl (tlt hc0).1 (by decide) (by decide) ?_
    exact b5_12 X hx hZ hw hby hown hret x w hv hr
  · rw [if_neg hc0] at hv
    refine XS.icmpNo X.here hx rfl (hb hby d5_3) rfl (flt hc0).1 ?_
    exact b5_6 X hx hZ hw hby hown hret x w hv hr
theorem pn_5 : plainName "com/example/libxdm/libxdm/model/XmlNames" = true := by first | (simp [plainName, overriddenIn]; done) | decide +kernel
theorem ef_5 (m : MethodId) (x0 : Int32) : entryFrame m #[(.int x0)] 1 = mkF m 0 #[.val (.int x0)] [] := by first | (simp [entryFrame, mkF, argsToLocals, Value.category]; done) | rfl
def Q5 (Z : State) (p1 : Int32) (h0 : Heap) (n0 : Nat) (v : Option Value) (h : Heap) (L : List Loc) : Prop := v = some (.int (v5_0 p1)) ∧ Fr n0 L ∧ h = h0
set_option maxRecDepth 65536 in
set_option maxHeartbeats 40000000 in
theorem rm5 (l : Launch) (Z : State) (a0 : Array Value) (hw : ∀ d ∈ tables_1, d.before a0 Z = true) (ws : List Jvm.Cond) (p1 : Int32) (h0 : Heap) (n0 : Nat) :
    MetFree l (⟨"com/example/libxdm/libxdm/model/XmlNames", "isNameStart", "(I)Z"⟩ : MethodName) (head1 (Jvm.Cond.code (⟨"com/example/libxdm/libxdm/model/XmlNames", "isNameStart", "(I)Z"⟩ : MethodName) prog_162_method_6_code 1 (some .boolean) :: ws) ({ frames := 0, cells := 0, slots := 0, locals := 0 } : Room)) (fun a U => a = #[(.int p1)] ∧ Z.Warmed39 U.vm ∧ U.heap = h0) (fun _ _ _ _ _ => True) (fun _ U o U' => ∃ v L, o = .returned v ∧ Q5 Z p1 h0 n0 v U'.heap L ∧ FrameEnd U o U' L ({ frames := 0, cells := 0, slots := 0, locals := 0 } : Room).cells ({ frames := 0, cells := 0, slots := 0, locals := 0 } : Room).slots) := by
  refine MetFree.of_bodySF (plainFor_of_name pn_5) hisR ?_
  intro p e s m args below meth c s₁ Bd hml0 hP hK
  obtain ⟨rfl, hZ, hh⟩ := hP
  have hx := Bd.exec
  have hby := Bd.bytes
  have hown : s.vm.findClass "com/example/libxdm/libxdm/model/XmlNames" = some m.cls := findClass_of_methodNamed Bd.named
  have X0 : Stand p l e ({ frames := 0, cells := 0, slots := 0, locals := 0 } : Room) s m #[(.int p1)] below meth c s₁ [] 0 0 := Stand.of_body Bd
  have e0 : s₁.heap = h0 := by rw [← hh, Bd.state]; rfl
  have N0 := Fr.nil n0
  have pre0 : ∀ t, Steps p.tables e below (s₁.setTop (mkF m 0 #[.val (.int p1)] [])) t → Steps p.tables e below (s₁.setTop (entryFrame m #[(.int p1)] 1)) t := fun t k => castTop (ef_5 m p1) k
  obtain ⟨fs, hr, hrun, hended, hW, hsame⟩ := X0.leave (v := some (.int (v5_0 p1))) (fun h => by rw [Bd.returns] at h; cases h)
  refine ⟨_, _, pre0 _ ?_, hrun, hended, _, _, rfl, ?_, ⟨_, rfl⟩, hW, hsame.mono (by decide) (by decide)⟩
  · exact b5_0 X0 hx hZ hw hby hown Bd.returns p1 _ rfl hr
  · show Q5 Z p1 h0 n0 _ s₁.heap _
    rw [e0]
    exact ⟨rfl, N0, rfl⟩
theorem r5_0 (x : Int32) : v5_0 x = (if (x < (65 : Int32)) ∨ ((90 : Int32) < x) then v5_12 x else v5_191 x) := by
  unfold v5_0 v5_6
  by_cases h1 : x < (65 : Int32) <;> by_cases h2 : (90 : Int32) < x <;> simp [h1, h2]
theorem r5_191 (x : Int32) : v5_191 x = (1 : Int32) := rfl
theorem r5_12 (x : Int32) : v5_12 x = (if (x < (97 : Int32)) ∨ ((122 : Int32) < x) then v5_24 x else v5_191 x) := by
  unfold v5_12 v5_18
  by_cases h1 : x < (97 : Int32) <;> by_cases h2 : (122 : Int32) < x <;> simp [h1, h2]
theorem r5_24 (x : Int32) : v5_24 x = (if x = (95 : Int32) then v5_191 x else v5_30 x) := rfl
theorem r5_30 (x : Int32) : v5_30 x = (if (x < (192 : Int32)) ∨ ((214 : Int32) < x) then v5_44 x else v5_191 x) := by
  unfold v5_30 v5_37
  by_cases h1 : x < (192 : Int32) <;> by_cases h2 : (214 : Int32) < x <;> simp [h1, h2]
theorem r5_44 (x : Int32) : v5_44 x = (if (x < (216 : Int32)) ∨ ((246 : Int32) < x) then v5_58 x else v5_191 x) := by
  unfold v5_44 v5_51
  by_cases h1 : x < (216 : Int32) <;> by_cases h2 : (246 : Int32) < x <;> simp [h1, h2]
theorem r5_58 (x : Int32) : v5_58 x = (if (x < (248 : Int32)) ∨ ((767 : Int32) < x) then v5_72 x else v5_191 x) := by
  unfold v5_58 v5_65
  by_cases h1 : x < (248 : Int32) <;> by_cases h2 : (767 : Int32) < x <;> simp [h1, h2]
theorem r5_72 (x : Int32) : v5_72 x = (if (x < (880 : Int32)) ∨ ((893 : Int32) < x) then v5_86 x else v5_191 x) := by
  unfold v5_72 v5_79
  by_cases h1 : x < (880 : Int32) <;> by_cases h2 : (893 : Int32) < x <;> simp [h1, h2]
theorem r5_86 (x : Int32) : v5_86 x = (if (x < (895 : Int32)) ∨ ((8191 : Int32) < x) then v5_100 x else v5_191 x) := by
  unfold v5_86 v5_93
  by_cases h1 : x < (895 : Int32) <;> by_cases h2 : (8191 : Int32) < x <;> simp [h1, h2]
theorem r5_100 (x : Int32) : v5_100 x = (if (x < (8204 : Int32)) ∨ ((8205 : Int32) < x) then v5_114 x else v5_191 x) := by
  unfold v5_100 v5_107
  by_cases h1 : x < (8204 : Int32) <;> by_cases h2 : (8205 : Int32) < x <;> simp [h1, h2]
theorem r5_114 (x : Int32) : v5_114 x = (if (x < (8304 : Int32)) ∨ ((8591 : Int32) < x) then v5_128 x else v5_191 x) := by
  unfold v5_114 v5_121
  by_cases h1 : x < (8304 : Int32) <;> by_cases h2 : (8591 : Int32) < x <;> simp [h1, h2]
theorem r5_128 (x : Int32) : v5_128 x = (if (x < (11264 : Int32)) ∨ ((12271 : Int32) < x) then v5_142 x else v5_191 x) := by
  unfold v5_128 v5_135
  by_cases h1 : x < (11264 : Int32) <;> by_cases h2 : (12271 : Int32) < x <;> simp [h1, h2]
theorem r5_142 (x : Int32) : v5_142 x = (if (x < (12289 : Int32)) ∨ ((55295 : Int32) < x) then v5_155 x else v5_191 x) := by
  unfold v5_142 v5_149
  by_cases h1 : x < (12289 : Int32) <;> by_cases h2 : (55295 : Int32) < x <;> simp [h1, h2]
theorem r5_155 (x : Int32) : v5_155 x = (if (x < (63744 : Int32)) ∨ ((64975 : Int32) < x) then v5_167 x else v5_191 x) := by
  unfold v5_155 v5_161
  by_cases h1 : x < (63744 : Int32) <;> by_cases h2 : (64975 : Int32) < x <;> simp [h1, h2]
theorem r5_167 (x : Int32) : v5_167 x = (if (x < (65008 : Int32)) ∨ ((65533 : Int32) < x) then v5_179 x else v5_191 x) := by
  unfold v5_167 v5_173
  by_cases h1 : x < (65008 : Int32) <;> by_cases h2 : (65533 : Int32) < x <;> simp [h1, h2]
theorem r5_179 (x : Int32) : v5_179 x = (if (x < (65536 : Int32)) ∨ ((983039 : Int32) < x) then v5_195 x else v5_191 x) := by
  unfold v5_179 v5_185
  by_cases h1 : x < (65536 : Int32) <;> by_cases h2 : (983039 : Int32) < x <;> simp [h1, h2]
theorem r5_195 (x : Int32) : v5_195 x = (0 : Int32) := rfl
theorem d4_0 : decode prog_162_method_7_code 0 = .ok (.iload_n 0, 1) := by decide +kernel
theorem d4_1 : decode prog_162_method_7_code 1 = .ok (.invokestatic 40, 3) := by decide +kernel
theorem d4_4 : decode prog_162_method_7_code 4 = .ok (.ifCond .ne 62, 3) := by decide +kernel
theorem d4_7 : decode prog_162_method_7_code 7 = .ok (.iload_n 0, 1) := by decide +kernel
theorem d4_8 : decode prog_162_method_7_code 8 = .ok (.bipush 45, 2) := by decide +kernel
theorem d4_10 : decode prog_162_method_7_code 10 = .ok (.if_icmp .eq 56, 3) := by decide +kernel
theorem d4_13 : decode prog_162_method_7_code 13 = .ok (.iload_n 0, 1) := by decide +kernel
theorem d4_14 : decode prog_162_method_7_code 14 = .ok (.bipush 46, 2) := by decide +kernel
theorem d4_16 : decode prog_162_method_7_code 16 = .ok (.if_icmp .eq 50, 3) := by decide +kernel
theorem d4_19 : decode prog_162_method_7_code 19 = .ok (.iload_n 0, 1) := by decide +kernel
theorem d4_20 : decode prog_162_method_7_code 20 = .ok (.bipush 48, 2) := by decide +kernel
theorem d4_22 : decode prog_162_method_7_code 22 = .ok (.if_icmp .lt 9, 3) := by decide +kernel
theorem d4_25 : decode prog_162_method_7_code 25 = .ok (.iload_n 0, 1) := by decide +kernel
theorem d4_26 : decode prog_162_method_7_code 26 = .ok (.bipush 57, 2) := by decide +kernel
theorem d4_28 : decode prog_162_method_7_code 28 = .ok (.if_icmp .le 38, 3) := by decide +kernel
theorem d4_31 : decode prog_162_method_7_code 31 = .ok (.iload_n 0, 1) := by decide +kernel
theorem d4_32 : decode prog_162_method_7_code 32 = .ok (.sipush 183, 3) := by decide +kernel
theorem d4_35 : decode prog_162_method_7_code 35 = .ok (.if_icmp .eq 31, 3) := by decide +kernel
theorem d4_38 : decode prog_162_method_7_code 38 = .ok (.iload_n 0, 1) := by decide +kernel
theorem d4_39 : decode prog_162_method_7_code 39 = .ok (.sipush 768, 3) := by decide +kernel
theorem d4_42 : decode prog_162_method_7_code 42 = .ok (.if_icmp .lt 10, 3) := by decide +kernel
theorem d4_45 : decode prog_162_method_7_code 45 = .ok (.iload_n 0, 1) := by decide +kernel
theorem d4_46 : decode prog_162_method_7_code 46 = .ok (.sipush 879, 3) := by decide +kernel
theorem d4_49 : decode prog_162_method_7_code 49 = .ok (.if_icmp .le 17, 3) := by decide +kernel
theorem d4_52 : decode prog_162_method_7_code 52 = .ok (.iload_n 0, 1) := by decide +kernel
theorem d4_53 : decode prog_162_method_7_code 53 = .ok (.sipush 8255, 3) := by decide +kernel
theorem d4_56 : decode prog_162_method_7_code 56 = .ok (.if_icmp .lt 14, 3) := by decide +kernel
theorem d4_59 : decode prog_162_method_7_code 59 = .ok (.iload_n 0, 1) := by decide +kernel
theorem d4_60 : decode prog_162_method_7_code 60 = .ok (.sipush 8256, 3) := by decide +kernel
theorem d4_63 : decode prog_162_method_7_code 63 = .ok (.if_icmp .gt 7, 3) := by decide +kernel
theorem d4_66 : decode prog_162_method_7_code 66 = .ok (.iconst 1, 1) := by decide +kernel
theorem d4_67 : decode prog_162_method_7_code 67 = .ok (.goto 4, 3) := by decide +kernel
theorem d4_70 : decode prog_162_method_7_code 70 = .ok (.iconst 0, 1) := by decide +kernel
theorem d4_71 : decode prog_162_method_7_code 71 = .ok (.ireturn, 1) := by decide +kernel
def v4_70 (x : Int32) : Int32 := (0 : Int32)
set_option maxRecDepth 65536 in
set_option maxHeartbeats 40000000 in
theorem b4_70 {p : Program} {l : Launch} {e : Env} {R : Room} {s : State} {m : MethodId} {args : Array Value} {below : List Frame} {meth : Method} {c : Code} {T : State} {locs : List Loc} {cells slots : Nat} {Z : State} {a0 : Array Value} (X : Stand p l e R s m args below meth c T locs cells slots) (hx : p.tables.exec = Jvm.exec) (hZ : Z.Warmed39 s.vm) (hw : ∀ d ∈ tables_1, d.before a0 Z = true) (hby : c.code = prog_162_method_7_code) (hown : s.vm.findClass "com/example/libxdm/libxdm/model/XmlNames" = some m.cls) (hret : meth.sig.returnType = some .boolean) (x w : Int32) (hv : v4_70 x = w) {fs : List Frame} (hr : ∀ (f : JFrame) (acts : List Action), f.method = m → f.locked = none → f.entered = [] → (doReturn e (T.setTop f) acts (some (.int w))).1 = T.setFrames fs) : Steps p.tables e below (T.setTop (mkF m 70 #[.val (.int x)] [])) (T.setFrames fs) := by
  change (0 : Int32) = w at hv
  show Steps p.tables e below (T.setTop (mkF m 70 #[.val (.int x)] [])) _
  refine XS.iconst X.here hx rfl (hb hby d4_70) ?_
  show Steps p.tables e below (T.setTop (mkF m 71 #[.val (.int x)] [(.int (0 : Int32))])) _
  subst hv
  exact retN X hx (t := .boolean) hret (by simp) (hb hby d4_71) hr
def v4_66 (x : Int32) : Int32 := (1 : Int32)
set_option maxRecDepth 65536 in
set_option maxHeartbeats 40000000 in
theorem b4_66 {p : Program} {l : Launch} {e : Env} {R : Room} {s : State} {m : MethodId} {args : Array Value} {below : List Frame} {meth : Method} {c : Code} {T : State} {locs : List Loc} {cells slots : Nat} {Z : State} {a0 : Array Value} (X : Stand p l e R s m args below meth c T locs cells slots) (hx : p.tables.exec = Jvm.exec) (hZ : Z.Warmed39 s.vm) (hw : ∀ d ∈ tables_1, d.before a0 Z = true) (hby : c.code = prog_162_method_7_code) (hown : s.vm.findClass "com/example/libxdm/libxdm/model/XmlNames" = some m.cls) (hret : meth.sig.returnType = some .boolean) (x w : Int32) (hv : v4_66 x = w) {fs : List Frame} (hr : ∀ (f : JFrame) (acts : List Action), f.method = m → f.locked = none → f.entered = [] → (doReturn e (T.setTop f) acts (some (.int w))).1 = T.setFrames fs) : Steps p.tables e below (T.setTop (mkF m 66 #[.val (.int x)] [])) (T.setFrames fs) := by
  change (1 : Int32) = w at hv
  show Steps p.tables e below (T.setTop (mkF m 66 #[.val (.int x)] [])) _
  refine XS.iconst X.here hx rfl (hb hby d4_66) ?_
  show Steps p.tables e below (T.setTop (mkF m 67 #[.val (.int x)] [(.int (1 : Int32))])) _
  refine XS.goto X.here hx rfl (pc0 := 67) (pc' := 71) rfl (hb hby d4_67) (by decide) (by decide) ?_
  show Steps p.tables e below (T.setTop (mkF m 71 #[.val (.int x)] [(.int (1 : Int32))])) _
  subst hv
  exact retN X hx (t := .boolean) hret (by simp) (hb hby d4_71) hr
def v4_59 (x : Int32) : Int32 := (if (8256 : Int32) < x then v4_70 x else v4_66 x)
set_option maxRecDepth 65536 in
set_option maxHeartbeats 40000000 in
theorem b4_59 {p : Program} {l : Launch} {e : Env} {R : Room} {s : State} {m : MethodId} {args : Array Value} {below : List Frame} {meth : Method} {c : Code} {T : State} {locs : List Loc} {cells slots : Nat} {Z : State} {a0 : Array Value} (X : Stand p l e R s m args below meth c T locs cells slots) (hx : p.tables.exec = Jvm.exec) (hZ : Z.Warmed39 s.vm) (hw : ∀ d ∈ tables_1, d.before a0 Z = true) (hby : c.code = prog_162_method_7_code) (hown : s.vm.findClass "com/example/libxdm/libxdm/model/XmlNames" = some m.cls) (hret : meth.sig.returnType = some .boolean) (x w : Int32) (hv : v4_59 x = w) {fs : List Frame} (hr : ∀ (f : JFrame) (acts : List Action), f.method = m → f.locked = none → f.entered = [] → (doReturn e (T.setTop f) acts (some (.int w))).1 = T.setFrames fs) : Steps p.tables e below (T.setTop (mkF m 59 #[.val (.int x)] [])) (T.setFrames fs) := by
  change (if (8256 : Int32) < x then v4_70 x else v4_66 x) = w at hv
  show Steps p.tables e below (T.setTop (mkF m 59 #[.val (.int x)] [])) _
  refine XS.iloadN X.here hx rfl (hb hby d4_59) rfl ?_
  show Steps p.tables e below (T.setTop (mkF m 60 #[.val (.int x)] [(.int x)])) _
  refine XS.sipush X.here hx rfl (hb hby d4_60) ?_
  show Steps p.tables e below (T.setTop (mkF m 63 #[.val (.int x)] [(.int (8256 : Int32)), (.int x)])) _
  by_cases hc0 : (8256 : Int32) < x
  · rw [if_pos hc0] at hv
    refine XS.icmpYes X.here hx rfl (pc0 := 63) (pc' := 70) rfl (hb hby d4_63) rfl (tlt hc0).2.2.1 (by decide) (by decide) ?_
    exact b4_70 X hx hZ hw hby hown hret x w hv hr
  · rw [if_neg hc0] at hv
    refine XS.icmpNo X.here hx rfl (hb hby d4_63) rfl (flt hc0).2.2.1 ?_
    exact b4_66 X hx hZ hw hby hown hret x w hv hr
def v4_52 (x : Int32) : Int32 := (if x < (8255 : Int32) then v4_70 x else v4_59 x)
set_option maxRecDepth 65536 in
set_option maxHeartbeats 40000000 in
theorem b4_52 {p : Program} {l : Launch} {e : Env} {R : Room} {s : State} {m : MethodId} {args : Array Value} {below : List Frame} {meth : Method} {c : Code} {T : State} {locs : List Loc} {cells slots : Nat} {Z : State} {a0 : Array Value} (X : Stand p l e R s m args below meth c T locs cells slots) (hx : p.tables.exec = Jvm.exec) (hZ : Z.Warmed39 s.vm) (hw : ∀ d ∈ tables_1, d.before a0 Z = true) (hby : c.code = prog_162_method_7_code) (hown : s.vm.findClass "com/example/libxdm/libxdm/model/XmlNames" = some m.cls) (hret : meth.sig.returnType = some .boolean) (x w : Int32) (hv : v4_52 x = w) {fs : List Frame} (hr : ∀ (f : JFrame) (acts : List Action), f.method = m → f.locked = none → f.entered = [] → (doReturn e (T.setTop f) acts (some (.int w))).1 = T.setFrames fs) : Steps p.tables e below (T.setTop (mkF m 52 #[.val (.int x)] [])) (T.setFrames fs) := by
  change (if x < (8255 : Int32) then v4_70 x else v4_59 x) = w at hv
  show Steps p.tables e below (T.setTop (mkF m 52 #[.val (.int x)] [])) _
  refine XS.iloadN X.here hx rfl (hb hby d4_52) rfl ?_
  show Steps p.tables e below (T.setTop (mkF m 53 #[.val (.int x)] [(.int x)])) _
  refine XS.sipush X.here hx rfl (hb hby d4_53) ?_
  show Steps p.tables e below (T.setTop (mkF m 56 #[.val (.int x)] [(.int (8255 : Int32)), (.int x)])) _
  by_cases hc0 : x < (8255 : Int32)
  · rw [if_pos hc0] at hv
    refine XS.icmpYes X.here hx rfl (pc0 := 56) (pc' := 70) rfl (hb hby d4_56) rfl (tlt hc0).1 (by decide) (by decide) ?_
    exact b4_70 X hx hZ hw hby hown hret x w hv hr
  · rw [if_neg hc0] at hv
    refine XS.icmpNo X.here hx rfl (hb hby d4_56) rfl (flt hc0).1 ?_
    exact b4_59 X hx hZ hw hby hown hret x w hv hr
def v4_45 (x : Int32) : Int32 := (if (879 : Int32) < x then v4_52 x else v4_66 x)
set_option maxRecDepth 65536 in
set_option maxHeartbeats 40000000 in
theorem b4_45 {p : Program} {l : Launch} {e : Env} {R : Room} {s : State} {m : MethodId} {args : Array Value} {below : List Frame} {meth : Method} {c : Code} {T : State} {locs : List Loc} {cells slots : Nat} {Z : State} {a0 : Array Value} (X : Stand p l e R s m args below meth c T locs cells slots) (hx : p.tables.exec = Jvm.exec) (hZ : Z.Warmed39 s.vm) (hw : ∀ d ∈ tables_1, d.before a0 Z = true) (hby : c.code = prog_162_method_7_code) (hown : s.vm.findClass "com/example/libxdm/libxdm/model/XmlNames" = some m.cls) (hret : meth.sig.returnType = some .boolean) (x w : Int32) (hv : v4_45 x = w) {fs : List Frame} (hr : ∀ (f : JFrame) (acts : List Action), f.method = m → f.locked = none → f.entered = [] → (doReturn e (T.setTop f) acts (some (.int w))).1 = T.setFrames fs) : Steps p.tables e below (T.setTop (mkF m 45 #[.val (.int x)] [])) (T.setFrames fs) := by
  change (if (879 : Int32) < x then v4_52 x else v4_66 x) = w at hv
  show Steps p.tables e below (T.setTop (mkF m 45 #[.val (.int x)] [])) _
  refine XS.iloadN X.here hx rfl (hb hby d4_45) rfl ?_
  show Steps p.tables e below (T.setTop (mkF m 46 #[.val (.int x)] [(.int x)])) _
  refine XS.sipush X.here hx rfl (hb hby d4_46) ?_
  show Steps p.tables e below (T.setTop (mkF m 49 #[.val (.int x)] [(.int (879 : Int32)), (.int x)])) _
  by_cases hc0 : (879 : Int32) < x
  · rw [if_pos hc0] at hv
    refine XS.icmpNo X.here hx rfl (hb hby d4_49) rfl (tlt hc0).2.2.2 ?_
    exact b4_52 X hx hZ hw hby hown hret x w hv hr
  · rw [if_neg hc0] at hv
    refine XS.icmpYes X.here hx rfl (pc0 := 49) (pc' := 66) rfl (hb hby d4_49) rfl (flt hc0).2.2.2 (by decide) (by decide) ?_
    exact b4_66 X hx hZ hw hby hown hret x w hv hr
def v4_38 (x : Int32) : Int32 := (if x < (768 : Int32) then v4_52 x else v4_45 x)
set_option maxRecDepth 65536 in
set_option maxHeartbeats 40000000 in
theorem b4_38 {p : Program} {l : Launch} {e : Env} {R : Room} {s : State} {m : MethodId} {args : Array Value} {below : List Frame} {meth : Method} {c : Code} {T : State} {locs : List Loc} {cells slots : Nat} {Z : State} {a0 : Array Value} (X : Stand p l e R s m args below meth c T locs cells slots) (hx : p.tables.exec = Jvm.exec) (hZ : Z.Warmed39 s.vm) (hw : ∀ d ∈ tables_1, d.before a0 Z = true) (hby : c.code = prog_162_method_7_code) (hown : s.vm.findClass "com/example/libxdm/libxdm/model/XmlNames" = some m.cls) (hret : meth.sig.returnType = some .boolean) (x w : Int32) (hv : v4_38 x = w) {fs : List Frame} (hr : ∀ (f : JFrame) (acts : List Action), f.method = m → f.locked = none → f.entered = [] → (doReturn e (T.setTop f) acts (some (.int w))).1 = T.setFrames fs) : Steps p.tables e below (T.setTop (mkF m 38 #[.val (.int x)] [])) (T.setFrames fs) := by
  change (if x < (768 : Int32) then v4_52 x else v4_45 x) = w at hv
  show Steps p.tables e below (T.setTop (mkF m 38 #[.val (.int x)] [])) _
  refine XS.iloadN X.here hx rfl (hb hby d4_38) rfl ?_
  show Steps p.tables e below (T.setTop (mkF m 39 #[.val (.int x)] [(.int x)])) _
  refine XS.sipush X.here hx rfl (hb hby d4_39) ?_
  show Steps p.tables e below (T.setTop (mkF m 42 #[.val (.int x)] [(.int (768 : Int32)), (.int x)])) _
  by_cases hc0 : x < (768 : Int32)
  · rw [if_pos hc0] at hv
    refine XS.icmpYes X.here hx rfl (pc0 := 42) (pc' := 52) rfl (hb hby d4_42) rfl (tlt hc0).1 (by decide) (by decide) ?_
    exact b4_52 X hx hZ hw hby hown hret x w hv hr
  · rw [if_neg hc0] at hv
    refine XS.icmpNo X.here hx rfl (hb hby d4_42) rfl (flt hc0).1 ?_
    exact b4_45 X hx hZ hw hby hown hret x w hv hr
def v4_31 (x : Int32) : Int32 := (if x = (183 : Int32) then v4_66 x else v4_38 x)
set_option maxRecDepth 65536 in
set_option maxHeartbeats 40000000 in
theorem b4_31 {p : Program} {l : Launch} {e : Env} {R : Room} {s : State} {m : MethodId} {args : Array Value} {below : List Frame} {meth : Method} {c : Code} {T : State} {locs : List Loc} {cells slots : Nat} {Z : State} {a0 : Array Value} (X : Stand p l e R s m args below meth c T locs cells slots) (hx : p.tables.exec = Jvm.exec) (hZ : Z.Warmed39 s.vm) (hw : ∀ d ∈ tables_1, d.before a0 Z = true) (hby : c.code = prog_162_method_7_code) (hown : s.vm.findClass "com/example/libxdm/libxdm/model/XmlNames" = some m.cls) (hret : meth.sig.returnType = some .boolean) (x w : Int32) (hv : v4_31 x = w) {fs : List Frame} (hr : ∀ (f : JFrame) (acts : List Action), f.method = m → f.locked = none → f.entered = [] → (doReturn e (T.setTop f) acts (some (.int w))).1 = T.setFrames fs) : Steps p.tables e below (T.setTop (mkF m 31 #[.val (.int x)] [])) (T.setFrames fs) := by
  change (if x = (183 : Int32) then v4_66 x else v4_38 x) = w at hv
  show Steps p.tables e below (T.setTop (mkF m 31 #[.val (.int x)] [])) _
  refine XS.iloadN X.here hx rfl (hb hby d4_31) rfl ?_
  show Steps p.tables e below (T.setTop (mkF m 32 #[.val (.int x)] [(.int x)])) _
  refine XS.sipush X.here hx rfl (hb hby d4_32) ?_
  show Steps p.tables e below (T.setTop (mkF m 35 #[.val (.int x)] [(.int (183 : Int32)), (.int x)])) _
  by_cases hc0 : x = (183 : Int32)
  · rw [if_pos hc0] at hv
    refine XS.icmpYes X.here hx rfl (pc0 := 35) (pc' := 66) rfl (hb hby d4_35) rfl (teq hc0).1 (by decide) (by decide) ?_
    exact b4_66 X hx hZ hw hby hown hret x w hv hr
  · rw [if_neg hc0] at hv
    refine XS.icmpNo X.here hx rfl (hb hby d4_35) rfl (feq hc0).1 ?_
    exact b4_38 X hx hZ hw hby hown hret x w hv hr
def v4_25 (x : Int32) : Int32 := (if (57 : Int32) < x then v4_31 x else v4_66 x)
set_option maxRecDepth 65536 in
set_option maxHeartbeats 40000000 in
theorem b4_25 {p : Program} {l : Launch} {e : Env} {R : Room} {s : State} {m : MethodId} {args : Array Value} {below : List Frame} {meth : Method} {c : Code} {T : State} {locs : List Loc} {cells slots : Nat} {Z : State} {a0 : Array Value} (X : Stand p l e R s m args below meth c T locs cells slots) (hx : p.tables.exec = Jvm.exec) (hZ : Z.Warmed39 s.vm) (hw : ∀ d ∈ tables_1, d.before a0 Z = true) (hby : c.code = prog_162_method_7_code) (hown : s.vm.findClass "com/example/libxdm/libxdm/model/XmlNames" = some m.cls) (hret : meth.sig.returnType = some .boolean) (x w : Int32) (hv : v4_25 x = w) {fs : List Frame} (hr : ∀ (f : JFrame) (acts : List Action), f.method = m → f.locked = none → f.entered = [] → (doReturn e (T.setTop f) acts (some (.int w))).1 = T.setFrames fs) : Steps p.tables e below (T.setTop (mkF m 25 #[.val (.int x)] [])) (T.setFrames fs) := by
  change (if (57 : Int32) < x then v4_31 x else v4_66 x) = w at hv
  show Steps p.tables e below (T.setTop (mkF m 25 #[.val (.int x)] [])) _
  refine XS.iloadN X.here hx rfl (hb hby d4_25) rfl ?_
  show Steps p.tables e below (T.setTop (mkF m 26 #[.val (.int x)] [(.int x)])) _
  refine XS.bipush X.here hx rfl (hb hby d4_26) ?_
  show Steps p.tables e below (T.setTop (mkF m 28 #[.val (.int x)] [(.int (57 : Int32)), (.int x)])) _
  by_cases hc0 : (57 : Int32) < x
  · rw [if_pos hc0] at hv
    refine XS.icmpNo X.here hx rfl (hb hby d4_28) rfl (tlt hc0).2.2.2 ?_
    exact b4_31 X hx hZ hw hby hown hret x w hv hr
  · rw [if_neg hc0] at hv
    refine XS.icmpYes X.here hx rfl (pc0 := 28) (pc' := 66) rfl (hb hby d4_28) rfl (flt hc0).2.2.2 (by decide) (by decide) ?_
    exact b4_66 X hx hZ hw hby hown hret x w hv hr
def v4_19 (x : Int32) : Int32 := (if x < (48 : Int32) then v4_31 x else v4_25 x)
set_option maxRecDepth 65536 in
set_option maxHeartbeats 40000000 in
theorem b4_19 {p : Program} {l : Launch} {e : Env} {R : Room} {s : State} {m : MethodId} {args : Array Value} {below : List Frame} {meth : Method} {c : Code} {T : State} {locs : List Loc} {cells slots : Nat} {Z : State} {a0 : Array Value} (X : Stand p l e R s m args below meth c T locs cells slots) (hx : p.tables.exec = Jvm.exec) (hZ : Z.Warmed39 s.vm) (hw : ∀ d ∈ tables_1, d.before a0 Z = true) (hby : c.code = prog_162_method_7_code) (hown : s.vm.findClass "com/example/libxdm/libxdm/model/XmlNames" = some m.cls) (hret : meth.sig.returnType = some .boolean) (x w : Int32) (hv : v4_19 x = w) {fs : List Frame} (hr : ∀ (f : JFrame) (acts : List Action), f.method = m → f.locked = none → f.entered = [] → (doReturn e (T.setTop f) acts (some (.int w))).1 = T.setFrames fs) : Steps p.tables e below (T.setTop (mkF m 19 #[.val (.int x)] [])) (T.setFrames fs) := by
  change (if x < (48 : Int32) then v4_31 x else v4_25 x) = w at hv
  show Steps p.tables e below (T.setTop (mkF m 19 #[.val (.int x)] [])) _
  refine XS.iloadN X.here hx rfl (hb hby d4_19) rfl ?_
  show Steps p.tables e below (T.setTop (mkF m 20 #[.val (.int x)] [(.int x)])) _
  refine XS.bipush X.here hx rfl (hb hby d4_20) ?_
  show Steps p.tables e below (T.setTop (mkF m 22 #[.val (.int x)] [(.int (48 : Int32)), (.int x)])) _
  by_cases hc0 : x < (48 : Int32)
  · rw [if_pos hc0] at hv
    refine XS.icmpYes X.here hx rfl (pc0 := 22) (pc' := 31) rfl (hb hby d4_22) rfl (tlt hc0).1 (by decide) (by decide) ?_
    exact b4_31 X hx hZ hw hby hown hret x w hv hr
  · rw [if_neg hc0] at hv
    refine XS.icmpNo X.here hx rfl (hb hby d4_22) rfl (flt hc0).1 ?_
    exact b4_25 X hx hZ hw hby hown hret x w hv hr
def v4_13 (x : Int32) : Int32 := (if x = (46 : Int32) then v4_66 x else v4_19 x)
set_option maxRecDepth 65536 in
set_option maxHeartbeats 40000000 in
theorem b4_13 {p : Program} {l : Launch} {e : Env} {R : Room} {s : State} {m : MethodId} {args : Array Value} {below : List Frame} {meth : Method} {c : Code} {T : State} {locs : List Loc} {cells slots : Nat} {Z : State} {a0 : Array Value} (X : Stand p l e R s m args below meth c T locs cells slots) (hx : p.tables.exec = Jvm.exec) (hZ : Z.Warmed39 s.vm) (hw : ∀ d ∈ tables_1, d.before a0 Z = true) (hby : c.code = prog_162_method_7_code) (hown : s.vm.findClass "com/example/libxdm/libxdm/model/XmlNames" = some m.cls) (hret : meth.sig.returnType = some .boolean) (x w : Int32) (hv : v4_13 x = w) {fs : List Frame} (hr : ∀ (f : JFrame) (acts : List Action), f.method = m → f.locked = none → f.entered = [] → (doReturn e (T.setTop f) acts (some (.int w))).1 = T.setFrames fs) : Steps p.tables e below (T.setTop (mkF m 13 #[.val (.int x)] [])) (T.setFrames fs) := by
  change (if x = (46 : Int32) then v4_66 x else v4_19 x) = w at hv
  show Steps p.tables e below (T.setTop (mkF m 13 #[.val (.int x)] [])) _
  refine XS.iloadN X.here hx rfl (hb hby d4_13) rfl ?_
  show Steps p.tables e below (T.setTop (mkF m 14 #[.val (.int x)] [(.int x)])) _
  refine XS.bipush X.here hx rfl (hb hby d4_14) ?_
  show Steps p.tables e below (T.setTop (mkF m 16 #[.val (.int x)] [(.int (46 : Int32)), (.int x)])) _
  by_cases hc0 : x = (46 : Int32)
  · rw [if_pos hc0] at hv
    refine XS.icmpYes X.here hx rfl (pc0 := 16) (pc' := 66) rfl (hb hby d4_16) rfl (teq hc0).1 (by decide) (by decide) ?_
    exact b4_66 X hx hZ hw hby hown hret x w hv hr
  · rw [if_neg hc0] at hv
    refine XS.icmpNo X.here hx rfl (hb hby d4_16) rfl (feq hc0).1 ?_
    exact b4_19 X hx hZ hw hby hown hret x w hv hr
def v4_7 (x : Int32) : Int32 := (if x = (45 : Int32) then v4_66 x else v4_13 x)
set_option maxRecDepth 65536 in
set_option maxHeartbeats 40000000 in
theorem b4_7 {p : Program} {l : Launch} {e : Env} {R : Room} {s : State} {m : MethodId} {args : Array Value} {below : List Frame} {meth : Method} {c : Code} {T : State} {locs : List Loc} {cells slots : Nat} {Z : State} {a0 : Array Value} (X : Stand p l e R s m args below meth c T locs cells slots) (hx : p.tables.exec = Jvm.exec) (hZ : Z.Warmed39 s.vm) (hw : ∀ d ∈ tables_1, d.before a0 Z = true) (hby : c.code = prog_162_method_7_code) (hown : s.vm.findClass "com/example/libxdm/libxdm/model/XmlNames" = some m.cls) (hret : meth.sig.returnType = some .boolean) (x w : Int32) (hv : v4_7 x = w) {fs : List Frame} (hr : ∀ (f : JFrame) (acts : List Action), f.method = m → f.locked = none → f.entered = [] → (doReturn e (T.setTop f) acts (some (.int w))).1 = T.setFrames fs) : Steps p.tables e below (T.setTop (mkF m 7 #[.val (.int x)] [])) (T.setFrames fs) := by
  change (if x = (45 : Int32) then v4_66 x else v4_13 x) = w at hv
  show Steps p.tables e below (T.setTop (mkF m 7 #[.val (.int x)] [])) _
  refine XS.iloadN X.here hx rfl (hb hby d4_7) rfl ?_
  show Steps p.tables e below (T.setTop (mkF m 8 #[.val (.int x)] [(.int x)])) _
  refine XS.bipush X.here hx rfl (hb hby d4_8) ?_
  show Steps p.tables e below (T.setTop (mkF m 10 #[.val (.int x)] [(.int (45 : Int32)), (.int x)])) _
  by_cases hc0 : x = (45 : Int32)
  · rw [if_pos hc0] at hv
    refine XS.icmpYes X.here hx rfl (pc0 := 10) (pc' := 66) rfl (hb hby d4_10) rfl (teq hc0).1 (by decide) (by decide) ?_
    exact b4_66 X hx hZ hw hby hown hret x w hv hr
  · rw [if_neg hc0] at hv
    refine XS.icmpNo X.here hx rfl (hb hby d4_10) rfl (feq hc0).1 ?_
    exact b4_13 X hx hZ hw hby hown hret x w hv hr
theorem pd_0_0 : parseMethodDescriptor "(I)Z" = some ⟨[.int], some .boolean⟩ := by decide +kernel
def v4_0 (x : Int32) : Int32 := if v5_0 x = (0 : Int32) then v4_7 x else v4_66 x
theorem ef_4 (m : MethodId) (x0 : Int32) : entryFrame m #[(.int x0)] 1 = mkF m 0 #[.val (.int x0)] [] := by first | (simp [entryFrame, mkF, argsToLocals, Value.category]; done) | rfl
def Q4 (Z : State) (p1 : Int32) (h0 : Heap) (n0 : Nat) (v : Option Value) (h : Heap) (L : List Loc) : Prop := v = some (.int (v4_0 p1)) ∧ Fr n0 L ∧ h = h0
set_option maxRecDepth 65536 in
set_option maxHeartbeats 40000000 in
theorem rm4 (l : Launch) (Z : State) (a0 : Array Value) (hw : ∀ d ∈ tables_1, d.before a0 Z = true) (ws : List Jvm.Cond) (p1 : Int32) (h0 : Heap) (n0 : Nat) :
    MetFree l (⟨"com/example/libxdm/libxdm/model/XmlNames", "isNameCharacter", "(I)Z"⟩ : MethodName) (head1 (Jvm.Cond.code (⟨"com/example/libxdm/libxdm/model/XmlNames", "isNameCharacter", "(I)Z"⟩ : MethodName) prog_162_method_7_code 1 (some .boolean) :: ws) ({ frames := 1, cells := 0, slots := 0, locals := 12 } : Room)) (fun a U => a = #[(.int p1)] ∧ Z.Warmed39 U.vm ∧ U.heap = h0) (fun _ _ _ _ _ => True) (fun _ U o U' => ∃ v L, o = .returned v ∧ Q4 Z p1 h0 n0 v U'.heap L ∧ FrameEnd U o U' L ({ frames := 1, cells := 0, slots := 0, locals := 12 } : Room).cells ({ frames := 1, cells := 0, slots := 0, locals := 12 } : Room).slots) := by
  refine MetFree.of_bodySF (plainFor_of_name pn_1) hisR ?_
  intro p e s m args below meth c s₁ Bd hml0 hP hK
  obtain ⟨rfl, hZ, hh⟩ := hP
  have hx := Bd.exec
  have hby := Bd.bytes
  have hml : c.maxLocals = 1 := hml0
  have hown : s.vm.findClass "com/example/libxdm/libxdm/model/XmlNames" = some m.cls := findClass_of_methodNamed Bd.named
  have X0 : Stand p l e ({ frames := 1, cells := 0, slots := 0, locals := 12 } : Room) s m #[(.int p1)] below meth c s₁ [] 0 0 := Stand.of_body Bd
  have e0 : s₁.heap = h0 := by rw [← hh, Bd.state]; rfl
  have N0 := Fr.nil n0
  have pre0 : ∀ t, Steps p.tables e below (s₁.setTop (mkF m 0 #[.val (.int p1)] [])) t → Steps p.tables e below (s₁.setTop (entryFrame m #[(.int p1)] 1)) t := fun t k => castTop (ef_4 m p1) k
  obtain ⟨_, _, ⟨T3, L3, k3, n3⟩, -, X3, ⟨Lc3, hQ3, l3, y3, z3⟩, st3⟩ := Jvm.LawKit.callS X0 hx (y := (⟨"com/example/libxdm/libxdm/model/XmlNames", "isNameStart", "(I)Z"⟩ : MethodName)) hown (mvT hZ (hw _ (List.mem_of_getElem? (i := 15) rfl))) (mvT hZ (hw _ (List.mem_of_getElem? (i := 16) rfl))) (mvT hZ (hw _ (List.mem_of_getElem? (i := 2) rfl))) (mvT hZ (hw _ (List.mem_of_getElem? (i := 17) rfl))) (by decide) (backOf (W := 0) (rm5 l Z a0 hw [] p1 h0 n0) hZ (hw _ (List.mem_of_getElem? (i := 17) rfl)) (hw _ (List.mem_of_getElem? (i := 2) rfl)) (by decide) (by decide)) (g := (mkF m 1 #[.val (.int p1)] [(.int p1)])) rfl (by rw [hml]; rfl) (argsL := [(.int p1)]) (rest := []) (lenOf pd_0_0 rfl) rfl (by show 2 * 0 + _ ≤ _; exact Nat.le_of_eq rfl) (hb hby d4_1) (fun _ _ => ⟨rfl, e0, (Nat.le_of_ble_eq_true rfl), (Nat.le_of_ble_eq_true rfl)⟩)
  dsimp only [Pt.U, Pt.locs, Pt.cells, Pt.slots] at X3 l3 y3 z3 st3 hQ3
  subst l3 y3 z3
  obtain ⟨rfl, N3q, e3⟩ := hQ3
  have N3 := Fr.app N0 N3q
  obtain ⟨fs, hr, hrun, hended, hW, hsame⟩ := X3.leave (v := some (.int (v4_0 p1))) (fun h => by rw [Bd.returns] at h; cases h)
  refine ⟨_, _, pre0 _ ?_, hrun, hended, _, _, rfl, ?_, ⟨_, rfl⟩, hW, hsame.mono (by decide) (by decide)⟩
  · have hv : (if v5_0 p1 = (0 : Int32) then v4_7 p1 else v4_66 p1) = v4_0 p1 := rfl
    show Steps p.tables e below (s₁.setTop (mkF m 0 #[.val (.int p1)] [])) _
    refine XS.iloadN X0.here hx rfl (hb hby d4_0) rfl ?_
    show Steps p.tables e below (s₁.setTop (mkF m 1 #[.val (.int p1)] [(.int p1)])) _
    refine st3 _ ?_
    show Steps p.tables e below (T3.setTop (mkF m 4 #[.val (.int p1)] [(.int (v5_0 p1))])) _
    by_cases hc : (v5_0 p1) = (0 : Int32)
    · rw [if_pos hc] at hv
      refine XS.ifNo X3.here hx rfl (hb hby d4_4) rfl ((if0 _ _).trans (teq hc).2) ?_
      exact b4_7 X3 hx hZ hw hby hown Bd.returns p1 _ hv hr
    · rw [if_neg hc] at hv
      refine XS.ifYes X3.here hx rfl (pc0 := 4) (pc' := 66) rfl (hb hby d4_4) rfl ((if0 _ _).trans (feq hc).2) (by decide) (by decide) ?_
      exact b4_66 X3 hx hZ hw hby hown Bd.returns p1 _ hv hr
  · show Q4 Z p1 h0 n0 _ T3.heap _
    rw [e3]
    exact ⟨rfl, N3, rfl⟩
/-! the plain law -/
set_option maxHeartbeats 4000000 in
theorem own_same (x : Int32) : v1_0 x = v2_0 x := by
  simp only [r1_0, r1_12, r1_28, r1_24, r2_0, r2_8, r2_22, r2_34, r2_38, r2_20, r2_6]
  simp only [Int32.lt_iff_toInt_lt, ← Int32.toInt_inj, apply_ite Int32.toInt, Int32.reduceToInt]
  omega
theorem own_four (x : Int32) (h : ¬ v1_0 x = 0) : x = 32 ∨ x = 9 ∨ x = 10 ∨ x = 13 := by
  simp only [r1_0, r1_12, r1_28, r1_24] at h
  by_cases q1 : x = 32
  · exact Or.inl q1
  by_cases q2 : x = 9
  · exact Or.inr (Or.inl q2)
  by_cases q3 : x = 10
  · exact Or.inr (Or.inr (Or.inl q3))
  by_cases q4 : x = 13
  · exact Or.inr (Or.inr (Or.inr q4))
  exact absurd (by simp [q1, q2, q3, q4]) h
theorem own_char (x : Int32) (h : ¬ v1_0 x = 0) : ¬ v3_0 x = 0 := by
  rcases own_four x h with rfl | rfl | rfl | rfl <;> decide +kernel
theorem own_name (x : Int32) (h : ¬ v1_0 x = 0) : v4_0 x = 0 := by
  rcases own_four x h with rfl | rfl | rfl | rfl <;> decide +kernel
/-! arrays of ints: the array at a has n places; place j holds f j -/
def own_A (Z : State) (h : Heap) (a : Addr) (n : Nat) (f : Nat → Int32) : Prop := ∃ cl : Cell, Arr Z h a cl .int ∧ cl.slots.size = n ∧ ∀ j, j < n → cl.slots[j]? = some (.int (f j))
theorem own_A.lt {Z : State} {h : Heap} {a : Addr} {n : Nat} {f : Nat → Int32} (A : own_A Z h a n f) : a < h.size := by
  obtain ⟨cl, Ar, -⟩ := A
  exact Ar.lt
theorem own_A.ext {Z : State} {h h' : Heap} {a : Addr} {n : Nat} {f : Nat → Int32} (A : own_A Z h a n f) (E : Ext h h') : own_A Z h' a n f := by
  obtain ⟨cl, Ar, r⟩ := A
  exact ⟨cl, Ar.ext E, r⟩
theorem own_A.keep {Z : State} {h h' : Heap} {a : Addr} {n : Nat} {f : Nat → Int32} {ws : List Addr} (A : own_A Z h a n f) (K : Keep h h' ws) (q : a ∉ ws) : own_A Z h' a n f := by
  obtain ⟨cl, Ar, r⟩ := A
  exact ⟨cl, ⟨K.2.1 a cl Ar.1 q, Ar.2⟩, r⟩
theorem own_slot (cl : Cell) (k : Nat) (v : Value) (i : Nat) (hk : k < cl.slots.size) : (cl.setSlot k v).slots[i]? = if i = k then some v else cl.slots[i]? := by
  show (cl.slots.setIfInBounds k v)[i]? = _
  rw [Array.getElem?_setIfInBounds]
  by_cases q : k = i
  · subst q
    simp [hk]
  · rw [if_neg q, if_neg (fun z => q z.symm)]
set_option maxHeartbeats 4000000 in
theorem own_put {p : Program} {l : Launch} {e : Env} {R : Room} {s : State} {m : MethodId} {args : Array Value} {below : List Frame} {meth : Method} {c : Code} {T : State} {locs : List Loc} {cells slots : Nat} {Z : State} (X : Stand p l e R s m args below meth c T locs cells slots) (hx : p.tables.exec = Jvm.exec) (hZ : Z.Warmed39 s.vm) {h : Heap} (eT : T.heap = h) {a : Addr} {n : Nat} {f : Nat → Int32} (A : own_A Z h a n f) {n0 : Nat} (N : Fr n0 locs) (ga : n0 ≤ a) {j x : Int32} (hj : ¬ j < 0) (hk : j.toNatClampNeg < n) {g : JFrame} (hg : g.method = m) {rest : List Value} (hs : g.stack = .int x :: .int j :: .ref a :: rest) (hd : decode c.code g.pc = .ok (.iastore, 1)) :
    ∃ (T' : State) (h' : Heap) (locs' : List Loc), Stand p l e R s m args below meth c T' locs' cells slots ∧ T'.heap = h' ∧ Fr n0 locs' ∧ own_A Z h' a n (fun i => if i = j.toNatClampNeg then x else f i) ∧ Keep h h' [a] ∧ ∀ target, Steps p.tables e below (T'.setTop { g with pc := g.pc + 1, stack := rest }) target → Steps p.tables e below (T.setTop g) target := by
  obtain ⟨cl, Ar, S, V⟩ := A
  obtain ⟨T', h', X', e', W', st⟩ := stI X hx hZ eT Ar (j := j) (by rw [S]; exact fun q => q.elim hj (fun q => by omega)) hg hs hd
  refine ⟨T', h', _, X', e', Fr.snoc X' N ga, ⟨_, Ar.same W', by rw [sz_set]; exact S, fun i hi => ?_⟩, Keep.of_wr W', st⟩
  rw [own_slot _ _ _ _ (by omega)]
  show _ = some (Value.int (if i = j.toNatClampNeg then x else f i))
  by_cases q : i = j.toNatClampNeg
  · rw [if_pos q, if_pos q]
  · rw [if_neg q, if_neg q]
    exact V i hi
set_option maxHeartbeats 4000000 in
theorem own_load {p : Program} {l : Launch} {e : Env} {R : Room} {s : State} {m : MethodId} {args : Array Value} {below : List Frame} {meth : Method} {c : Code} {T : State} {locs : List Loc} {cells slots : Nat} {Z : State} (X : Stand p l e R s m args below meth c T locs cells slots) (hx : p.tables.exec = Jvm.exec) (hZ : Z.Warmed39 s.vm) {h : Heap} (eT : T.heap = h) {a : Addr} {n : Nat} {f : Nat → Int32} (A : own_A Z h a n f) {j : Int32} (hj : ¬ j < 0) (hk : j.toNatClampNeg < n) {g : JFrame} (hg : g.method = m) {rest : List Value} (hs : g.stack = .int j :: .ref a :: rest) (hd : decode c.code g.pc = .ok (.iaload, 1)) :
    ∃ z : Int32, z = f j.toNatClampNeg ∧ ∀ target, Steps p.tables e below (T.setTop { g with pc := g.pc + 1, stack := .int z :: rest }) target → Steps p.tables e below (T.setTop g) target := by
  obtain ⟨cl, Ar, S, V⟩ := A
  exact ⟨_, rfl, fun target hr => X.iaload hx (j := j) (v := .int (f j.toNatClampNeg)) (by rw [eT]; exact Ar.1) (State.isArrayOf_alike hZ.alike Ar.2.1) Ar.2.2 (by rw [S]; exact fun q => q.elim hj (fun q => by omega)) (V _ hk) hg hs hd target hr⟩
set_option maxHeartbeats 4000000 in
theorem own_new {p : Program} {l : Launch} {e : Env} {R : Room} {s : State} {m : MethodId} {args : Array Value} {below : List Frame} {meth : Method} {c : Code} {T : State} {locs : List Loc} {cells slots : Nat} {Z : State} (X : Stand p l e R s m args below meth c T locs cells slots) (hx : p.tables.exec = Jvm.exec) (hZ : Z.Warmed39 s.vm) {h : Heap} (eT : T.heap = h) {a0 : Array Value} (w : (Cond.arrayClass .int).before a0 Z = true) {g : JFrame} (hg : g.method = m) (hd : decode c.code g.pc = .ok (.newarray .int, 2)) {n : Int32} {rest : List Value} (hs : g.stack = .int n :: rest) (hn : ¬ n < 0) {k : Nat} (hk : n.toNatClampNeg = k) (hb : k * 8 ≤ 536870912) (hc : cells + 1 ≤ R.cells) (hl : slots + k ≤ R.slots) :
    ∃ (T' : State) (h' : Heap), Stand p l e R s m args below meth c T' locs (cells + 1) (slots + k) ∧ T'.heap = h' ∧ Ext h h' ∧ own_A Z h' h.size k (fun _ => 0) ∧ ∀ target, Steps p.tables e below (T'.setTop { g with pc := g.pc + 2, stack := .ref h.size :: rest }) target → Steps p.tables e below (T.setTop g) target := by
  obtain ⟨T', h', cA, X', e', E', A', st⟩ := newP X hx hZ (aty := .int) w eT hg hd hs hn (cap := k) (Nat.le_of_eq hk) hb hc hl
  refine ⟨T', h', X', e', E', ⟨_, A', by rw [sz_new]; exact hk, fun j hj => ?_⟩, st⟩
  show (Array.replicate n.toNatClampNeg (defaultValue .int))[j]? = _
  rw [hk, Array.getElem?_replicate, if_pos hj]
  rfl
theorem own_idx (y : Int32) : ¬ (y &&& (3 : Int32)) < 0 ∧ (y &&& (3 : Int32)).toNatClampNeg < 4 := by
  have e1 : (y &&& 3).toInt = y.toInt % 2 ^ 2 := Jvm.Kit.i32_mask y 3 (k := 2) (by decide) (by decide)
  rw [Int32.lt_iff_toInt_lt, Int32.toNatClampNeg, e1, show (0 : Int32).toInt = 0 from rfl]
  omega
theorem own_ws (f : Nat → Int32) (h0 : f 0 = 9) (h1 : f 1 = 10) (h2 : f 2 = 13) (h3 : f 3 = 32) (j : Nat) (hj : j < 4) : ¬ v1_0 (f j) = 0 := by
  match j, hj with
  | 0, _ => rw [h0]; decide +kernel
  | 1, _ => rw [h1]; decide +kernel
  | 2, _ => rw [h2]; decide +kernel
  | 3, _ => rw [h3]; decide +kernel
theorem pn_0 : plainName "com/example/libxdm/libxdm/model/XmlNamesIsWhitespacePinLaw" = true := by first | (simp [plainName, overriddenIn]; done) | decide +kernel
theorem ef_0 (m : MethodId) (x0 : Int32) (x1 : Int32) : entryFrame m #[(.int x0), (.int x1)] maxLocals = mkF m 0 #[.val (.int x0), .val (.int x1), .unset, .unset, .unset, .unset] [] := by first | (simp [entryFrame, mkF, argsToLocals, Value.category, maxLocals]; done) | rfl
def Q0 (h0 : Heap) (n0 : Nat) (v : Option Value) (h : Heap) (L : List Loc) : Prop := v = some (.int (1 : Int32)) ∧ Fr n0 L
set_option maxRecDepth 65536 in
set_option maxHeartbeats 40000000 in
theorem rm0 (l : Launch) (Z : State) (a0 : Array Value) (hw : ∀ d ∈ tables_1, d.before a0 Z = true) (ws : List Jvm.Cond) (p1 : Int32) (p2 : Int32) (h0 : Heap) (n0 : Nat) (Z0 : n0 ≤ h0.size) :
    MetFree l x (head1 (Jvm.Cond.code x code maxLocals ret :: ws) room_1) (fun a U => a = #[(.int p1), (.int p2)] ∧ Z.Warmed39 U.vm ∧ U.heap = h0) (fun _ _ _ _ _ => True) (fun _ U o U' => ∃ v L, o = .returned v ∧ Q0 h0 n0 v U'.heap L ∧ FrameEnd U o U' L room_1.cells room_1.slots) := by
  refine MetFree.of_bodySF (plainFor_of_name pn_0) hisR ?_
  intro p e s m args below meth c s₁ Bd hml0 hP hK
  obtain ⟨rfl, hZ, hh⟩ := hP
  have hx := Bd.exec
  have hby := Bd.bytes
  have hlk := Bd.notSynchronized
  have hret : meth.sig.returnType = some .boolean := Bd.returns
  have hml : c.maxLocals = 6 := hml0
  have hown : s.vm.findClass "com/example/libxdm/libxdm/model/XmlNamesIsWhitespacePinLaw" = some m.cls := findClass_of_methodNamed Bd.named
  have X0 : Stand p l e room_1 s m #[(.int p1), (.int p2)] below meth c s₁ [] 0 0 := Stand.of_body Bd
  have e0 : s₁.heap = h0 := by rw [← hh, Bd.state]; rfl
  have N0 := Fr.nil n0
  have pre0 : ∀ t, Steps p.tables e below (s₁.setTop (mkF m 0 #[.val (.int p1), .val (.int p2), .unset, .unset, .unset, .unset] [])) t → Steps p.tables e below (s₁.setTop (entryFrame m #[(.int p1), (.int p2)] maxLocals)) t := fun t k => castTop (ef_0 m p1 p2) k
  by_cases hc4 : (v1_0 p1) = (0 : Int32)
  · obtain ⟨_, _, ⟨T1, L1, k1, n1⟩, -, X1, ⟨Lc1, hQ1, l1, y1, z1⟩, st1⟩ := Jvm.LawKit.callS X0 hx (y := (⟨"com/example/libxdm/libxdm/model/XmlNames", "isWhitespace", "(I)Z"⟩ : MethodName)) hown (mvT hZ (hw _ (List.mem_of_getElem? (i := 0) rfl))) (mvT hZ (hw _ (List.mem_of_getElem? (i := 1) rfl))) (mvT hZ (hw _ (List.mem_of_getElem? (i := 2) rfl))) (mvT hZ (hw _ (List.mem_of_getElem? (i := 3) rfl))) (by decide) (backOf (W := 0) (rm1 l Z a0 hw [] p1 h0 n0) hZ (hw _ (List.mem_of_getElem? (i := 3) rfl)) (hw _ (List.mem_of_getElem? (i := 2) rfl)) (by decide) (by decide)) (g := (mkF m 1 #[.val (.int p1), .val (.int p2), .unset, .unset, .unset, .unset] [(.int p1)])) rfl (by rw [hml]; rfl) (argsL := [(.int p1)]) (rest := []) (lenOf pd_0_0 rfl) rfl (by show 2 * 0 + _ ≤ _; exact Nat.le_of_eq rfl) (hb hby at_1) (fun _ _ => ⟨rfl, e0, (Nat.le_of_ble_eq_true rfl), (Nat.le_of_ble_eq_true rfl)⟩)
    dsimp only [Pt.U, Pt.locs, Pt.cells, Pt.slots] at X1 l1 y1 z1 st1 hQ1
    subst l1 y1 z1
    obtain ⟨rfl, N1q, e1⟩ := hQ1
    have N1 := Fr.app N0 N1q
    obtain ⟨_, _, ⟨T2, L2, k2, n2⟩, -, X2, ⟨Lc2, hQ2, l2, y2, z2⟩, st2⟩ := Jvm.LawKit.callS X1 hx (y := (⟨"com/example/libxdm/libxdm/model/XmlNamesIsWhitespacePinLaw", "ref", "(I)Z"⟩ : MethodName)) hown (mvT hZ (hw _ (List.mem_of_getElem? (i := 4) rfl))) (mvT hZ (hw _ (List.mem_of_getElem? (i := 5) rfl))) (mvT hZ (hw _ (List.mem_of_getElem? (i := 6) rfl))) (mvT hZ (hw _ (List.mem_of_getElem? (i := 7) rfl))) (by decide) (backOf (W := 1) (rm2 l Z a0 hw [] p1 h0 n0) hZ (hw _ (List.mem_of_getElem? (i := 7) rfl)) (hw _ (List.mem_of_getElem? (i := 6) rfl)) (by decide) (by decide)) (g := (mkF m 7 #[.val (.int p1), .val (.int p2), .val (.int (v1_0 p1)), .unset, .unset, .unset] [(.int p1), (.int (v1_0 p1))])) rfl (by rw [hml]; rfl) (argsL := [(.int p1)]) (rest := [(.int (v1_0 p1))]) (lenOf pd_0_0 rfl) rfl (by show 2 * 0 + _ ≤ _; exact Nat.le_of_eq rfl) (hb hby at_7) (fun _ _ => ⟨rfl, e1, (Nat.le_of_ble_eq_true rfl), (Nat.le_of_ble_eq_true rfl)⟩)
    dsimp only [Pt.U, Pt.locs, Pt.cells, Pt.slots] at X2 l2 y2 z2 st2 hQ2
    subst l2 y2 z2
    obtain ⟨rfl, N2q, e2⟩ := hQ2
    have N2 := Fr.app N1 N2q
    obtain ⟨T5, h5, X5, e5, E5, A5, st5⟩ := own_new X2 hx hZ e2 (hw _ (List.mem_of_getElem? (i := 8) rfl)) (g := (mkF m 36 #[.val (.int p1), .val (.int p2), .val (.int (v1_0 p1)), .unset, .unset, .unset] [(.int (4 : Int32))])) rfl (hb hby at_36) rfl (by decide) (k := 4) (by decide) (by decide) (by decide) (by decide)
    obtain ⟨a5, g5⟩ : ∃ z, z = h0.size := ⟨_, rfl⟩
    rw [← g5] at A5 st5
    have ga5 : n0 ≤ a5 := by rw [g5]; exact Z0
    have Z5 : n0 ≤ h5.size := Nat.le_trans Z0 E5.1
    obtain ⟨T6, h6, L6, X6, e6, N6, A6, K6, st6⟩ := own_put X5 hx hZ e5 A5 N2 ga5 (by decide) (by decide) (g := (mkF m 42 #[.val (.int p1), .val (.int p2), .val (.int (v1_0 p1)), .unset, .unset, .unset] [(.int (9 : Int32)), (.int (0 : Int32)), (.ref a5), (.ref a5)])) rfl rfl (hb hby at_42)
    have Z6 : n0 ≤ h6.size := Nat.le_trans Z5 K6.1
    obtain ⟨T7, h7, L7, X7, e7, N7, A7, K7, st7⟩ := own_put X6 hx hZ e6 A6 N6 ga5 (by decide) (by decide) (g := (mkF m 47 #[.val (.int p1), .val (.int p2), .val (.int (v1_0 p1)), .unset, .unset, .unset] [(.int (10 : Int32)), (.int (1 : Int32)), (.ref a5), (.ref a5)])) rfl rfl (hb hby at_47)
    have Z7 : n0 ≤ h7.size := Nat.le_trans Z6 K7.1
    obtain ⟨T8, h8, L8, X8, e8, N8, A8, K8, st8⟩ := own_put X7 hx hZ e7 A7 N7 ga5 (by decide) (by decide) (g := (mkF m 52 #[.val (.int p1), .val (.int p2), .val (.int (v1_0 p1)), .unset, .unset, .unset] [(.int (13 : Int32)), (.int (2 : Int32)), (.ref a5), (.ref a5)])) rfl rfl (hb hby at_52)
    have Z8 : n0 ≤ h8.size := Nat.le_trans Z7 K8.1
    obtain ⟨T9, h9, L9, X9, e9, N9, A9, K9, st9⟩ := own_put X8 hx hZ e8 A8 N8 ga5 (by decide) (by decide) (g := (mkF m 57 #[.val (.int p1), .val (.int p2), .val (.int (v1_0 p1)), .unset, .unset, .unset] [(.int (32 : Int32)), (.int (3 : Int32)), (.ref a5), (.ref a5)])) rfl rfl (hb hby at_57)
    have Z9 : n0 ≤ h9.size := Nat.le_trans Z8 K9.1
    obtain ⟨z10, hz10, st10⟩ := own_load X9 hx hZ e9 A9 (own_idx p2).1 (own_idx p2).2 (g := (mkF m 63 #[.val (.int p1), .val (.int p2), .val (.int (v1_0 p1)), .val (.ref a5), .unset, .unset] [(.int (p2 &&& (3 : Int32))), (.ref a5)])) rfl rfl (hb hby at_63)
    have hws : ¬ v1_0 z10 = 0 := by rw [hz10]; exact own_ws (fun i => if i = (3 : Int32).toNatClampNeg then 32 else if i = (2 : Int32).toNatClampNeg then 13 else if i = (1 : Int32).toNatClampNeg then 10 else if i = (0 : Int32).toNatClampNeg then 9 else 0) (by decide +kernel) (by decide +kernel) (by decide +kernel) (by decide +kernel) _ (own_idx p2).2
    obtain ⟨_, _, ⟨T11, L11, k11, n11⟩, -, X11, ⟨Lc11, hQ11, l11, y11, z11⟩, st11⟩ := Jvm.LawKit.callS X9 hx (y := (⟨"com/example/libxdm/libxdm/model/XmlNames", "isWhitespace", "(I)Z"⟩ : MethodName)) hown (mvT hZ (hw _ (List.mem_of_getElem? (i := 0) rfl))) (mvT hZ (hw _ (List.mem_of_getElem? (i := 1) rfl))) (mvT hZ (hw _ (List.mem_of_getElem? (i := 2) rfl))) (mvT hZ (hw _ (List.mem_of_getElem? (i := 3) rfl))) (by decide) (backOf (W := 0) (rm1 l Z a0 hw [] z10 h9 n0) hZ (hw _ (List.mem_of_getElem? (i := 3) rfl)) (hw _ (List.mem_of_getElem? (i := 2) rfl)) (by decide) (by decide)) (g := (mkF m 68 #[.val (.int p1), .val (.int p2), .val (.int (v1_0 p1)), .val (.ref a5), .val (.int z10), .unset] [(.int z10)])) rfl (by rw [hml]; rfl) (argsL := [(.int z10)]) (rest := []) (lenOf pd_0_0 rfl) rfl (by show 2 * 0 + _ ≤ _; exact Nat.le_of_eq rfl) (hb hby at_68) (fun _ _ => ⟨rfl, e9, (Nat.le_of_ble_eq_true rfl), (Nat.le_of_ble_eq_true rfl)⟩)
    dsimp only [Pt.U, Pt.locs, Pt.cells, Pt.slots] at X11 l11 y11 z11 st11 hQ11
    subst l11 y11 z11
    obtain ⟨rfl, N11q, e11⟩ := hQ11
    have N11 := Fr.app N9 N11q
    obtain ⟨_, _, ⟨T13, L13, k13, n13⟩, -, X13, ⟨Lc13, hQ13, l13, y13, z13⟩, st13⟩ := Jvm.LawKit.callS X11 hx (y := (⟨"com/example/libxdm/libxdm/model/XmlNames", "isWhitespace", "(I)Z"⟩ : MethodName)) hown (mvT hZ (hw _ (List.mem_of_getElem? (i := 0) rfl))) (mvT hZ (hw _ (List.mem_of_getElem? (i := 1) rfl))) (mvT hZ (hw _ (List.mem_of_getElem? (i := 2) rfl))) (mvT hZ (hw _ (List.mem_of_getElem? (i := 3) rfl))) (by decide) (backOf (W := 0) (rm1 l Z a0 hw [] (z10 ^^^ ((1 : Int32) <<< (((XT.ushr p2 (2 : Int32)) &&& (31 : Int32)) &&& 31))) h9 n0) hZ (hw _ (List.mem_of_getElem? (i := 3) rfl)) (hw _ (List.mem_of_getElem? (i := 2) rfl)) (by decide) (by decide)) (g := (mkF m 91 #[.val (.int p1), .val (.int p2), .val (.int (v1_0 p1)), .val (.ref a5), .val (.int z10), .val (.int (z10 ^^^ ((1 : Int32) <<< (((XT.ushr p2 (2 : Int32)) &&& (31 : Int32)) &&& 31))))] [(.int (z10 ^^^ ((1 : Int32) <<< (((XT.ushr p2 (2 : Int32)) &&& (31 : Int32)) &&& 31))))])) rfl (by rw [hml]; rfl) (argsL := [(.int (z10 ^^^ ((1 : Int32) <<< (((XT.ushr p2 (2 : Int32)) &&& (31 : Int32)) &&& 31))))]) (rest := []) (lenOf pd_0_0 rfl) rfl (by show 2 * 0 + _ ≤ _; exact Nat.le_of_eq rfl) (hb hby at_91) (fun _ _ => ⟨rfl, e11, (Nat.le_of_ble_eq_true rfl), (Nat.le_of_ble_eq_true rfl)⟩)
    dsimp only [Pt.U, Pt.locs, Pt.cells, Pt.slots] at X13 l13 y13 z13 st13 hQ13
    subst l13 y13 z13
    obtain ⟨rfl, N13q, e13⟩ := hQ13
    have N13 := Fr.app N11 N13q
    obtain ⟨_, _, ⟨T14, L14, k14, n14⟩, -, X14, ⟨Lc14, hQ14, l14, y14, z14⟩, st14⟩ := Jvm.LawKit.callS X13 hx (y := (⟨"com/example/libxdm/libxdm/model/XmlNamesIsWhitespacePinLaw", "ref", "(I)Z"⟩ : MethodName)) hown (mvT hZ (hw _ (List.mem_of_getElem? (i := 4) rfl))) (mvT hZ (hw _ (List.mem_of_getElem? (i := 5) rfl))) (mvT hZ (hw _ (List.mem_of_getElem? (i := 6) rfl))) (mvT hZ (hw _ (List.mem_of_getElem? (i := 7) rfl))) (by decide) (backOf (W := 1) (rm2 l Z a0 hw [] (z10 ^^^ ((1 : Int32) <<< (((XT.ushr p2 (2 : Int32)) &&& (31 : Int32)) &&& 31))) h9 n0) hZ (hw _ (List.mem_of_getElem? (i := 7) rfl)) (hw _ (List.mem_of_getElem? (i := 6) rfl)) (by decide) (by decide)) (g := (mkF m 96 #[.val (.int p1), .val (.int p2), .val (.int (v1_0 p1)), .val (.ref a5), .val (.int z10), .val (.int (z10 ^^^ ((1 : Int32) <<< (((XT.ushr p2 (2 : Int32)) &&& (31 : Int32)) &&& 31))))] [(.int (z10 ^^^ ((1 : Int32) <<< (((XT.ushr p2 (2 : Int32)) &&& (31 : Int32)) &&& 31)))), (.int (v1_0 (z10 ^^^ ((1 : Int32) <<< (((XT.ushr p2 (2 : Int32)) &&& (31 : Int32)) &&& 31)))))])) rfl (by rw [hml]; rfl) (argsL := [(.int (z10 ^^^ ((1 : Int32) <<< (((XT.ushr p2 (2 : Int32)) &&& (31 : Int32)) &&& 31))))]) (rest := [(.int (v1_0 (z10 ^^^ ((1 : Int32) <<< (((XT.ushr p2 (2 : Int32)) &&& (31 : Int32)) &&& 31)))))]) (lenOf pd_0_0 rfl) rfl (by show 2 * 0 + _ ≤ _; exact Nat.le_of_eq rfl) (hb hby at_96) (fun _ _ => ⟨rfl, e13, (Nat.le_of_ble_eq_true rfl), (Nat.le_of_ble_eq_true rfl)⟩)
    dsimp only [Pt.U, Pt.locs, Pt.cells, Pt.slots] at X14 l14 y14 z14 st14 hQ14
    subst l14 y14 z14
    obtain ⟨rfl, N14q, e14⟩ := hQ14
    have N14 := Fr.app N13 N14q
    obtain ⟨fs, hr, hrun, hended, hW, hsame⟩ := X14.leave (v := some (.int (1 : Int32))) (fun h => by rw [hret] at h; cases h)
    have N := N14
    refine ⟨_, _, pre0 _ ?_, hrun, hended, _, _, rfl, ⟨rfl, N⟩, ⟨_, rfl⟩, hW, hsame.mono (by decide) (by decide)⟩
    show Steps p.tables e below (s₁.setTop (mkF m 0 #[.val (.int p1), .val (.int p2), .unset, .unset, .unset, .unset] [])) _
    refine XS.iloadN X0.here hx rfl (hb hby at_0) rfl ?_
    show Steps p.tables e below (s₁.setTop (mkF m 1 #[.val (.int p1), .val (.int p2), .unset, .unset, .unset, .unset] [(.int p1)])) _
    refine st1 _ ?_
    show Steps p.tables e below (T1.setTop (mkF m 4 #[.val (.int p1), .val (.int p2), .unset, .unset, .unset, .unset] [(.int (v1_0 p1))])) _
    refine XS.istoreN X1.here hx rfl (hb hby at_4) rfl (l' := #[.val (.int p1), .val (.int p2), .val (.int (v1_0 p1)), .unset, .unset, .unset]) rfl ?_
    show Steps p.tables e below (T1.setTop (mkF m 5 #[.val (.int p1), .val (.int p2), .val (.int (v1_0 p1)), .unset, .unset, .unset] [])) _
    refine XS.iloadN X1.here hx rfl (hb hby at_5) rfl ?_
    show Steps p.tables e below (T1.setTop (mkF m 6 #[.val (.int p1), .val (.int p2), .val (.int (v1_0 p1)), .unset, .unset, .unset] [(.int (v1_0 p1))])) _
    refine XS.iloadN X1.here hx rfl (hb hby at_6) rfl ?_
    show Steps p.tables e below (T1.setTop (mkF m 7 #[.val (.int p1), .val (.int p2), .val (.int (v1_0 p1)), .unset, .unset, .unset] [(.int p1), (.int (v1_0 p1))])) _
    refine st2 _ ?_
    show Steps p.tables e below (T2.setTop (mkF m 10 #[.val (.int p1), .val (.int p2), .val (.int (v1_0 p1)), .unset, .unset, .unset] [(.int (v2_0 p1)), (.int (v1_0 p1))])) _
    refine XS.icmpYes X2.here hx rfl (pc0 := 10) (pc' := 15) rfl (hb hby at_10) rfl (teq (own_same p1)).1 (by decide) (by decide) ?_
    show Steps p.tables e below (T2.setTop (mkF m 15 #[.val (.int p1), .val (.int p2), .val (.int (v1_0 p1)), .unset, .unset, .unset] [])) _
    refine XS.iloadN X2.here hx rfl (hb hby at_15) rfl ?_
    show Steps p.tables e below (T2.setTop (mkF m 16 #[.val (.int p1), .val (.int p2), .val (.int (v1_0 p1)), .unset, .unset, .unset] [(.int (v1_0 p1))])) _
    refine XS.ifYes X2.here hx rfl (pc0 := 16) (pc' := 35) rfl (hb hby at_16) rfl ((if0 _ _).trans (teq hc4).1) (by decide) (by decide) ?_
    show Steps p.tables e below (T2.setTop (mkF m 35 #[.val (.int p1), .val (.int p2), .val (.int (v1_0 p1)), .unset, .unset, .unset] [])) _
    refine XS.iconst X2.here hx rfl (hb hby at_35) ?_
    show Steps p.tables e below (T2.setTop (mkF m 36 #[.val (.int p1), .val (.int p2), .val (.int (v1_0 p1)), .unset, .unset, .unset] [(.int (4 : Int32))])) _
    refine st5 _ ?_
    show Steps p.tables e below (T5.setTop (mkF m 38 #[.val (.int p1), .val (.int p2), .val (.int (v1_0 p1)), .unset, .unset, .unset] [(.ref a5)])) _
    refine XS.dup X5.here hx rfl (hb hby at_38) rfl rfl ?_
    show Steps p.tables e below (T5.setTop (mkF m 39 #[.val (.int p1), .val (.int p2), .val (.int (v1_0 p1)), .unset, .unset, .unset] [(.ref a5), (.ref a5)])) _
    refine XS.iconst X5.here hx rfl (hb hby at_39) ?_
    show Steps p.tables e below (T5.setTop (mkF m 40 #[.val (.int p1), .val (.int p2), .val (.int (v1_0 p1)), .unset, .unset, .unset] [(.int (0 : Int32)), (.ref a5), (.ref a5)])) _
    refine XS.bipush X5.here hx rfl (hb hby at_40) ?_
    show Steps p.tables e below (T5.setTop (mkF m 42 #[.val (.int p1), .val (.int p2), .val (.int (v1_0 p1)), .unset, .unset, .unset] [(.int (9 : Int32)), (.int (0 : Int32)), (.ref a5), (.ref a5)])) _
    refine st6 _ ?_
    show Steps p.tables e below (T6.setTop (mkF m 43 #[.val (.int p1), .val (.int p2), .val (.int (v1_0 p1)), .unset, .unset, .unset] [(.ref a5)])) _
    refine XS.dup X6.here hx rfl (hb hby at_43) rfl rfl ?_
    show Steps p.tables e below (T6.setTop (mkF m 44 #[.val (.int p1), .val (.int p2), .val (.int (v1_0 p1)), .unset, .unset, .unset] [(.ref a5), (.ref a5)])) _
    refine XS.iconst X6.here hx rfl (hb hby at_44) ?_
    show Steps p.tables e below (T6.setTop (mkF m 45 #[.val (.int p1), .val (.int p2), .val (.int (v1_0 p1)), .unset, .unset, .unset] [(.int (1 : Int32)), (.ref a5), (.ref a5)])) _
    refine XS.bipush X6.here hx rfl (hb hby at_45) ?_
    show Steps p.tables e below (T6.setTop (mkF m 47 #[.val (.int p1), .val (.int p2), .val (.int (v1_0 p1)), .unset, .unset, .unset] [(.int (10 : Int32)), (.int (1 : Int32)), (.ref a5), (.ref a5)])) _
    refine st7 _ ?_
    show Steps p.tables e below (T7.setTop (mkF m 48 #[.val (.int p1), .val (.int p2), .val (.int (v1_0 p1)), .unset, .unset, .unset] [(.ref a5)])) _
    refine XS.dup X7.here hx rfl (hb hby at_48) rfl rfl ?_
    show Steps p.tables e below (T7.setTop (mkF m 49 #[.val (.int p1), .val (.int p2), .val (.int (v1_0 p1)), .unset, .unset, .unset] [(.ref a5), (.ref a5)])) _
    refine XS.iconst X7.here hx rfl (hb hby at_49) ?_
    show Steps p.tables e below (T7.setTop (mkF m 50 #[.val (.int p1), .val (.int p2), .val (.int (v1_0 p1)), .unset, .unset, .unset] [(.int (2 : Int32)), (.ref a5), (.ref a5)])) _
    refine XS.bipush X7.here hx rfl (hb hby at_50) ?_
    show Steps p.tables e below (T7.setTop (mkF m 52 #[.val (.int p1), .val (.int p2), .val (.int (v1_0 p1)), .unset, .unset, .unset] [(.int (13 : Int32)), (.int (2 : Int32)), (.ref a5), (.ref a5)])) _
    refine st8 _ ?_
    show Steps p.tables e below (T8.setTop (mkF m 53 #[.val (.int p1), .val (.int p2), .val (.int (v1_0 p1)), .unset, .unset, .unset] [(.ref a5)])) _
    refine XS.dup X8.here hx rfl (hb hby at_53) rfl rfl ?_
    show Steps p.tables e below (T8.setTop (mkF m 54 #[.val (.int p1), .val (.int p2), .val (.int (v1_0 p1)), .unset, .unset, .unset] [(.ref a5), (.ref a5)])) _
    refine XS.iconst X8.here hx rfl (hb hby at_54) ?_
    show Steps p.tables e below (T8.setTop (mkF m 55 #[.val (.int p1), .val (.int p2), .val (.int (v1_0 p1)), .unset, .unset, .unset] [(.int (3 : Int32)), (.ref a5), (.ref a5)])) _
    refine XS.bipush X8.here hx rfl (hb hby at_55) ?_
    show Steps p.tables e below (T8.setTop (mkF m 57 #[.val (.int p1), .val (.int p2), .val (.int (v1_0 p1)), .unset, .unset, .unset] [(.int (32 : Int32)), (.int (3 : Int32)), (.ref a5), (.ref a5)])) _
    refine st9 _ ?_
    show Steps p.tables e below (T9.setTop (mkF m 58 #[.val (.int p1), .val (.int p2), .val (.int (v1_0 p1)), .unset, .unset, .unset] [(.ref a5)])) _
    refine XS.astoreN X9.here hx rfl (hb hby at_58) rfl rfl (l' := #[.val (.int p1), .val (.int p2), .val (.int (v1_0 p1)), .val (.ref a5), .unset, .unset]) rfl ?_
    show Steps p.tables e below (T9.setTop (mkF m 59 #[.val (.int p1), .val (.int p2), .val (.int (v1_0 p1)), .val (.ref a5), .unset, .unset] [])) _
    refine XS.aloadN X9.here hx rfl (hb hby at_59) rfl rfl ?_
    show Steps p.tables e below (T9.setTop (mkF m 60 #[.val (.int p1), .val (.int p2), .val (.int (v1_0 p1)), .val (.ref a5), .unset, .unset] [(.ref a5)])) _
    refine XS.iloadN X9.here hx rfl (hb hby at_60) rfl ?_
    show Steps p.tables e below (T9.setTop (mkF m 61 #[.val (.int p1), .val (.int p2), .val (.int (v1_0 p1)), .val (.ref a5), .unset, .unset] [(.int p2), (.ref a5)])) _
    refine XS.iconst X9.here hx rfl (hb hby at_61) ?_
    show Steps p.tables e below (T9.setTop (mkF m 62 #[.val (.int p1), .val (.int p2), .val (.int (v1_0 p1)), .val (.ref a5), .unset, .unset] [(.int (3 : Int32)), (.int p2), (.ref a5)])) _
    refine XS.iand X9.here hx rfl (hb hby at_62) rfl ?_
    show Steps p.tables e below (T9.setTop (mkF m 63 #[.val (.int p1), .val (.int p2), .val (.int (v1_0 p1)), .val (.ref a5), .unset, .unset] [(.int (p2 &&& (3 : Int32))), (.ref a5)])) _
    refine st10 _ ?_
    show Steps p.tables e below (T9.setTop (mkF m 64 #[.val (.int p1), .val (.int p2), .val (.int (v1_0 p1)), .val (.ref a5), .unset, .unset] [(.int z10)])) _
    refine XS.istore X9.here hx rfl (hb hby at_64) rfl (l' := #[.val (.int p1), .val (.int p2), .val (.int (v1_0 p1)), .val (.ref a5), .val (.int z10), .unset]) rfl ?_
    show Steps p.tables e below (T9.setTop (mkF m 66 #[.val (.int p1), .val (.int p2), .val (.int (v1_0 p1)), .val (.ref a5), .val (.int z10), .unset] [])) _
    refine XS.iload X9.here hx rfl (hb hby at_66) rfl ?_
    show Steps p.tables e below (T9.setTop (mkF m 68 #[.val (.int p1), .val (.int p2), .val (.int (v1_0 p1)), .val (.ref a5), .val (.int z10), .unset] [(.int z10)])) _
    refine st11 _ ?_
    show Steps p.tables e below (T11.setTop (mkF m 71 #[.val (.int p1), .val (.int p2), .val (.int (v1_0 p1)), .val (.ref a5), .val (.int z10), .unset] [(.int (v1_0 z10))])) _
    refine XS.ifYes X11.here hx rfl (pc0 := 71) (pc' := 76) rfl (hb hby at_71) rfl ((if0 _ _).trans (feq (hws)).2) (by decide) (by decide) ?_
    show Steps p.tables e below (T11.setTop (mkF m 76 #[.val (.int p1), .val (.int p2), .val (.int (v1_0 p1)), .val (.ref a5), .val (.int z10), .unset] [])) _
    refine XS.iload X11.here hx rfl (hb hby at_76) rfl ?_
    show Steps p.tables e below (T11.setTop (mkF m 78 #[.val (.int p1), .val (.int p2), .val (.int (v1_0 p1)), .val (.ref a5), .val (.int z10), .unset] [(.int z10)])) _
    refine XS.iconst X11.here hx rfl (hb hby at_78) ?_
    show Steps p.tables e below (T11.setTop (mkF m 79 #[.val (.int p1), .val (.int p2), .val (.int (v1_0 p1)), .val (.ref a5), .val (.int z10), .unset] [(.int (1 : Int32)), (.int z10)])) _
    refine XS.iloadN X11.here hx rfl (hb hby at_79) rfl ?_
    show Steps p.tables e below (T11.setTop (mkF m 80 #[.val (.int p1), .val (.int p2), .val (.int (v1_0 p1)), .val (.ref a5), .val (.int z10), .unset] [(.int p2), (.int (1 : Int32)), (.int z10)])) _
    refine XS.iconst X11.here hx rfl (hb hby at_80) ?_
    show Steps p.tables e below (T11.setTop (mkF m 81 #[.val (.int p1), .val (.int p2), .val (.int (v1_0 p1)), .val (.ref a5), .val (.int z10), .unset] [(.int (2 : Int32)), (.int p2), (.int (1 : Int32)), (.int z10)])) _
    refine XT.iushr X11.here hx rfl (hb hby at_81) rfl ?_
    show Steps p.tables e below (T11.setTop (mkF m 82 #[.val (.int p1), .val (.int p2), .val (.int (v1_0 p1)), .val (.ref a5), .val (.int z10), .unset] [(.int (XT.ushr p2 (2 : Int32))), (.int (1 : Int32)), (.int z10)])) _
    refine XS.bipush X11.here hx rfl (hb hby at_82) ?_
    show Steps p.tables e below (T11.setTop (mkF m 84 #[.val (.int p1), .val (.int p2), .val (.int (v1_0 p1)), .val (.ref a5), .val (.int z10), .unset] [(.int (31 : Int32)), (.int (XT.ushr p2 (2 : Int32))), (.int (1 : Int32)), (.int z10)])) _
    refine XS.iand X11.here hx rfl (hb hby at_84) rfl ?_
    show Steps p.tables e below (T11.setTop (mkF m 85 #[.val (.int p1), .val (.int p2), .val (.int (v1_0 p1)), .val (.ref a5), .val (.int z10), .unset] [(.int ((XT.ushr p2 (2 : Int32)) &&& (31 : Int32))), (.int (1 : Int32)), (.int z10)])) _
    refine XT.ishl X11.here hx rfl (hb hby at_85) rfl ?_
    show Steps p.tables e below (T11.setTop (mkF m 86 #[.val (.int p1), .val (.int p2), .val (.int (v1_0 p1)), .val (.ref a5), .val (.int z10), .unset] [(.int ((1 : Int32) <<< (((XT.ushr p2 (2 : Int32)) &&& (31 : Int32)) &&& 31))), (.int z10)])) _
    refine XT.ixor X11.here hx rfl (hb hby at_86) rfl ?_
    show Steps p.tables e below (T11.setTop (mkF m 87 #[.val (.int p1), .val (.int p2), .val (.int (v1_0 p1)), .val (.ref a5), .val (.int z10), .unset] [(.int (z10 ^^^ ((1 : Int32) <<< (((XT.ushr p2 (2 : Int32)) &&& (31 : Int32)) &&& 31))))])) _
    refine XS.istore X11.here hx rfl (hb hby at_87) rfl (l' := #[.val (.int p1), .val (.int p2), .val (.int (v1_0 p1)), .val (.ref a5), .val (.int z10), .val (.int (z10 ^^^ ((1 : Int32) <<< (((XT.ushr p2 (2 : Int32)) &&& (31 : Int32)) &&& 31))))]) rfl ?_
    show Steps p.tables e below (T11.setTop (mkF m 89 #[.val (.int p1), .val (.int p2), .val (.int (v1_0 p1)), .val (.ref a5), .val (.int z10), .val (.int (z10 ^^^ ((1 : Int32) <<< (((XT.ushr p2 (2 : Int32)) &&& (31 : Int32)) &&& 31))))] [])) _
    refine XS.iload X11.here hx rfl (hb hby at_89) rfl ?_
    show Steps p.tables e below (T11.setTop (mkF m 91 #[.val (.int p1), .val (.int p2), .val (.int (v1_0 p1)), .val (.ref a5), .val (.int z10), .val (.int (z10 ^^^ ((1 : Int32) <<< (((XT.ushr p2 (2 : Int32)) &&& (31 : Int32)) &&& 31))))] [(.int (z10 ^^^ ((1 : Int32) <<< (((XT.ushr p2 (2 : Int32)) &&& (31 : Int32)) &&& 31))))])) _
    refine st13 _ ?_
    show Steps p.tables e below (T13.setTop (mkF m 94 #[.val (.int p1), .val (.int p2), .val (.int (v1_0 p1)), .val (.ref a5), .val (.int z10), .val (.int (z10 ^^^ ((1 : Int32) <<< (((XT.ushr p2 (2 : Int32)) &&& (31 : Int32)) &&& 31))))] [(.int (v1_0 (z10 ^^^ ((1 : Int32) <<< (((XT.ushr p2 (2 : Int32)) &&& (31 : Int32)) &&& 31)))))])) _
    refine XS.iload X13.here hx rfl (hb hby at_94) rfl ?_
    show Steps p.tables e below (T13.setTop (mkF m 96 #[.val (.int p1), .val (.int p2), .val (.int (v1_0 p1)), .val (.ref a5), .val (.int z10), .val (.int (z10 ^^^ ((1 : Int32) <<< (((XT.ushr p2 (2 : Int32)) &&& (31 : Int32)) &&& 31))))] [(.int (z10 ^^^ ((1 : Int32) <<< (((XT.ushr p2 (2 : Int32)) &&& (31 : Int32)) &&& 31)))), (.int (v1_0 (z10 ^^^ ((1 : Int32) <<< (((XT.ushr p2 (2 : Int32)) &&& (31 : Int32)) &&& 31)))))])) _
    refine st14 _ ?_
    show Steps p.tables e below (T14.setTop (mkF m 99 #[.val (.int p1), .val (.int p2), .val (.int (v1_0 p1)), .val (.ref a5), .val (.int z10), .val (.int (z10 ^^^ ((1 : Int32) <<< (((XT.ushr p2 (2 : Int32)) &&& (31 : Int32)) &&& 31))))] [(.int (v2_0 (z10 ^^^ ((1 : Int32) <<< (((XT.ushr p2 (2 : Int32)) &&& (31 : Int32)) &&& 31))))), (.int (v1_0 (z10 ^^^ ((1 : Int32) <<< (((XT.ushr p2 (2 : Int32)) &&& (31 : Int32)) &&& 31)))))])) _
    refine XS.icmpYes X14.here hx rfl (pc0 := 99) (pc' := 104) rfl (hb hby at_99) rfl (teq (own_same (z10 ^^^ ((1 : Int32) <<< (((XT.ushr p2 (2 : Int32)) &&& (31 : Int32)) &&& 31))))).1 (by decide) (by decide) ?_
    show Steps p.tables e below (T14.setTop (mkF m 104 #[.val (.int p1), .val (.int p2), .val (.int (v1_0 p1)), .val (.ref a5), .val (.int z10), .val (.int (z10 ^^^ ((1 : Int32) <<< (((XT.ushr p2 (2 : Int32)) &&& (31 : Int32)) &&& 31))))] [])) _
    refine XS.iconst X14.here hx rfl (hb hby at_104) ?_
    show Steps p.tables e below (T14.setTop (mkF m 105 #[.val (.int p1), .val (.int p2), .val (.int (v1_0 p1)), .val (.ref a5), .val (.int z10), .val (.int (z10 ^^^ ((1 : Int32) <<< (((XT.ushr p2 (2 : Int32)) &&& (31 : Int32)) &&& 31))))] [(.int (1 : Int32))])) _
    exact retN X14 hx (t := .boolean) hret (by simp) (hb hby at_105) hr
  · obtain ⟨_, _, ⟨T1, L1, k1, n1⟩, -, X1, ⟨Lc1, hQ1, l1, y1, z1⟩, st1⟩ := Jvm.LawKit.callS X0 hx (y := (⟨"com/example/libxdm/libxdm/model/XmlNames", "isWhitespace", "(I)Z"⟩ : MethodName)) hown (mvT hZ (hw _ (List.mem_of_getElem? (i := 0) rfl))) (mvT hZ (hw _ (List.mem_of_getElem? (i := 1) rfl))) (mvT hZ (hw _ (List.mem_of_getElem? (i := 2) rfl))) (mvT hZ (hw _ (List.mem_of_getElem? (i := 3) rfl))) (by decide) (backOf (W := 0) (rm1 l Z a0 hw [] p1 h0 n0) hZ (hw _ (List.mem_of_getElem? (i := 3) rfl)) (hw _ (List.mem_of_getElem? (i := 2) rfl)) (by decide) (by decide)) (g := (mkF m 1 #[.val (.int p1), .val (.int p2), .unset, .unset, .unset, .unset] [(.int p1)])) rfl (by rw [hml]; rfl) (argsL := [(.int p1)]) (rest := []) (lenOf pd_0_0 rfl) rfl (by show 2 * 0 + _ ≤ _; exact Nat.le_of_eq rfl) (hb hby at_1) (fun _ _ => ⟨rfl, e0, (Nat.le_of_ble_eq_true rfl), (Nat.le_of_ble_eq_true rfl)⟩)
    dsimp only [Pt.U, Pt.locs, Pt.cells, Pt.slots] at X1 l1 y1 z1 st1 hQ1
    subst l1 y1 z1
    obtain ⟨rfl, N1q, e1⟩ := hQ1
    have N1 := Fr.app N0 N1q
    obtain ⟨_, _, ⟨T2, L2, k2, n2⟩, -, X2, ⟨Lc2, hQ2, l2, y2, z2⟩, st2⟩ := Jvm.LawKit.callS X1 hx (y := (⟨"com/example/libxdm/libxdm/model/XmlNamesIsWhitespacePinLaw", "ref", "(I)Z"⟩ : MethodName)) hown (mvT hZ (hw _ (List.mem_of_getElem? (i := 4) rfl))) (mvT hZ (hw _ (List.mem_of_getElem? (i := 5) rfl))) (mvT hZ (hw _ (List.mem_of_getElem? (i := 6) rfl))) (mvT hZ (hw _ (List.mem_of_getElem? (i := 7) rfl))) (by decide) (backOf (W := 1) (rm2 l Z a0 hw [] p1 h0 n0) hZ (hw _ (List.mem_of_getElem? (i := 7) rfl)) (hw _ (List.mem_of_getElem? (i := 6) rfl)) (by decide) (by decide)) (g := (mkF m 7 #[.val (.int p1), .val (.int p2), .val (.int (v1_0 p1)), .unset, .unset, .unset] [(.int p1), (.int (v1_0 p1))])) rfl (by rw [hml]; rfl) (argsL := [(.int p1)]) (rest := [(.int (v1_0 p1))]) (lenOf pd_0_0 rfl) rfl (by show 2 * 0 + _ ≤ _; exact Nat.le_of_eq rfl) (hb hby at_7) (fun _ _ => ⟨rfl, e1, (Nat.le_of_ble_eq_true rfl), (Nat.le_of_ble_eq_true rfl)⟩)
    dsimp only [Pt.U, Pt.locs, Pt.cells, Pt.slots] at X2 l2 y2 z2 st2 hQ2
    subst l2 y2 z2
    obtain ⟨rfl, N2q, e2⟩ := hQ2
    have N2 := Fr.app N1 N2q
    obtain ⟨_, _, ⟨T16, L16, k16, n16⟩, -, X16, ⟨Lc16, hQ16, l16, y16, z16⟩, st16⟩ := Jvm.LawKit.callS X2 hx (y := (⟨"com/example/libxdm/libxdm/model/XmlNames", "isCharacter", "(I)Z"⟩ : MethodName)) hown (mvT hZ (hw _ (List.mem_of_getElem? (i := 9) rfl))) (mvT hZ (hw _ (List.mem_of_getElem? (i := 10) rfl))) (mvT hZ (hw _ (List.mem_of_getElem? (i := 2) rfl))) (mvT hZ (hw _ (List.mem_of_getElem? (i := 11) rfl))) (by decide) (backOf (W := 0) (rm3 l Z a0 hw [] p1 h0 n0) hZ (hw _ (List.mem_of_getElem? (i := 11) rfl)) (hw _ (List.mem_of_getElem? (i := 2) rfl)) (by decide) (by decide)) (g := (mkF m 20 #[.val (.int p1), .val (.int p2), .val (.int (v1_0 p1)), .unset, .unset, .unset] [(.int p1)])) rfl (by rw [hml]; rfl) (argsL := [(.int p1)]) (rest := []) (lenOf pd_0_0 rfl) rfl (by show 2 * 0 + _ ≤ _; exact Nat.le_of_eq rfl) (hb hby at_20) (fun _ _ => ⟨rfl, e2, (Nat.le_of_ble_eq_true rfl), (Nat.le_of_ble_eq_true rfl)⟩)
    dsimp only [Pt.U, Pt.locs, Pt.cells, Pt.slots] at X16 l16 y16 z16 st16 hQ16
    subst l16 y16 z16
    obtain ⟨rfl, N16q, e16⟩ := hQ16
    have N16 := Fr.app N2 N16q
    obtain ⟨_, _, ⟨T18, L18, k18, n18⟩, -, X18, ⟨Lc18, hQ18, l18, y18, z18⟩, st18⟩ := Jvm.LawKit.callS X16 hx (y := (⟨"com/example/libxdm/libxdm/model/XmlNames", "isNameCharacter", "(I)Z"⟩ : MethodName)) hown (mvT hZ (hw _ (List.mem_of_getElem? (i := 12) rfl))) (mvT hZ (hw _ (List.mem_of_getElem? (i := 13) rfl))) (mvT hZ (hw _ (List.mem_of_getElem? (i := 2) rfl))) (mvT hZ (hw _ (List.mem_of_getElem? (i := 14) rfl))) (by decide) (backOf (W := 0) (rm4 l Z a0 hw [] p1 h0 n0) hZ (hw _ (List.mem_of_getElem? (i := 14) rfl)) (hw _ (List.mem_of_getElem? (i := 2) rfl)) (by decide) (by decide)) (g := (mkF m 27 #[.val (.int p1), .val (.int p2), .val (.int (v1_0 p1)), .unset, .unset, .unset] [(.int p1)])) rfl (by rw [hml]; rfl) (argsL := [(.int p1)]) (rest := []) (lenOf pd_0_0 rfl) rfl (by show 2 * 0 + _ ≤ _; exact Nat.le_of_eq rfl) (hb hby at_27) (fun _ _ => ⟨rfl, e16, (Nat.le_of_ble_eq_true rfl), (Nat.le_of_ble_eq_true rfl)⟩)
    dsimp only [Pt.U, Pt.locs, Pt.cells, Pt.slots] at X18 l18 y18 z18 st18 hQ18
    subst l18 y18 z18
    obtain ⟨rfl, N18q, e18⟩ := hQ18
    have N18 := Fr.app N16 N18q
    obtain ⟨T20, h20, X20, e20, E20, A20, st20⟩ := own_new X18 hx hZ e18 (hw _ (List.mem_of_getElem? (i := 8) rfl)) (g := (mkF m 36 #[.val (.int p1), .val (.int p2), .val (.int (v1_0 p1)), .unset, .unset, .unset] [(.int (4 : Int32))])) rfl (hb hby at_36) rfl (by decide) (k := 4) (by decide) (by decide) (by decide) (by decide)
    obtain ⟨a20, g20⟩ : ∃ z, z = h0.size := ⟨_, rfl⟩
    rw [← g20] at A20 st20
    have ga20 : n0 ≤ a20 := by rw [g20]; exact Z0
    have Z20 : n0 ≤ h20.size := Nat.le_trans Z0 E20.1
    obtain ⟨T21, h21, L21, X21, e21, N21, A21, K21, st21⟩ := own_put X20 hx hZ e20 A20 N18 ga20 (by decide) (by decide) (g := (mkF m 42 #[.val (.int p1), .val (.int p2), .val (.int (v1_0 p1)), .unset, .unset, .unset] [(.int (9 : Int32)), (.int (0 : Int32)), (.ref a20), (.ref a20)])) rfl rfl (hb hby at_42)
    have Z21 : n0 ≤ h21.size := Nat.le_trans Z20 K21.1
    obtain ⟨T22, h22, L22, X22, e22, N22, A22, K22, st22⟩ := own_put X21 hx hZ e21 A21 N21 ga20 (by decide) (by decide) (g := (mkF m 47 #[.val (.int p1), .val (.int p2), .val (.int (v1_0 p1)), .unset, .unset, .unset] [(.int (10 : Int32)), (.int (1 : Int32)), (.ref a20), (.ref a20)])) rfl rfl (hb hby at_47)
    have Z22 : n0 ≤ h22.size := Nat.le_trans Z21 K22.1
    obtain ⟨T23, h23, L23, X23, e23, N23, A23, K23, st23⟩ := own_put X22 hx hZ e22 A22 N22 ga20 (by decide) (by decide) (g := (mkF m 52 #[.val (.int p1), .val (.int p2), .val (.int (v1_0 p1)), .unset, .unset, .unset] [(.int (13 : Int32)), (.int (2 : Int32)), (.ref a20), (.ref a20)])) rfl rfl (hb hby at_52)
    have Z23 : n0 ≤ h23.size := Nat.le_trans Z22 K23.1
    obtain ⟨T24, h24, L24, X24, e24, N24, A24, K24, st24⟩ := own_put X23 hx hZ e23 A23 N23 ga20 (by decide) (by decide) (g := (mkF m 57 #[.val (.int p1), .val (.int p2), .val (.int (v1_0 p1)), .unset, .unset, .unset] [(.int (32 : Int32)), (.int (3 : Int32)), (.ref a20), (.ref a20)])) rfl rfl (hb hby at_57)
    have Z24 : n0 ≤ h24.size := Nat.le_trans Z23 K24.1
    obtain ⟨z25, hz25, st25⟩ := own_load X24 hx hZ e24 A24 (own_idx p2).1 (own_idx p2).2 (g := (mkF m 63 #[.val (.int p1), .val (.int p2), .val (.int (v1_0 p1)), .val (.ref a20), .unset, .unset] [(.int (p2 &&& (3 : Int32))), (.ref a20)])) rfl rfl (hb hby at_63)
    have hws : ¬ v1_0 z25 = 0 := by rw [hz25]; exact own_ws (fun i => if i = (3 : Int32).toNatClampNeg then 32 else if i = (2 : Int32).toNatClampNeg then 13 else if i = (1 : Int32).toNatClampNeg then 10 else if i = (0 : Int32).toNatClampNeg then 9 else 0) (by decide +kernel) (by decide +kernel) (by decide +kernel) (by decide +kernel) _ (own_idx p2).2
    obtain ⟨_, _, ⟨T26, L26, k26, n26⟩, -, X26, ⟨Lc26, hQ26, l26, y26, z26⟩, st26⟩ := Jvm.LawKit.callS X24 hx (y := (⟨"com/example/libxdm/libxdm/model/XmlNames", "isWhitespace", "(I)Z"⟩ : MethodName)) hown (mvT hZ (hw _ (List.mem_of_getElem? (i := 0) rfl))) (mvT hZ (hw _ (List.mem_of_getElem? (i := 1) rfl))) (mvT hZ (hw _ (List.mem_of_getElem? (i := 2) rfl))) (mvT hZ (hw _ (List.mem_of_getElem? (i := 3) rfl))) (by decide) (backOf (W := 0) (rm1 l Z a0 hw [] z25 h24 n0) hZ (hw _ (List.mem_of_getElem? (i := 3) rfl)) (hw _ (List.mem_of_getElem? (i := 2) rfl)) (by decide) (by decide)) (g := (mkF m 68 #[.val (.int p1), .val (.int p2), .val (.int (v1_0 p1)), .val (.ref a20), .val (.int z25), .unset] [(.int z25)])) rfl (by rw [hml]; rfl) (argsL := [(.int z25)]) (rest := []) (lenOf pd_0_0 rfl) rfl (by show 2 * 0 + _ ≤ _; exact Nat.le_of_eq rfl) (hb hby at_68) (fun _ _ => ⟨rfl, e24, (Nat.le_of_ble_eq_true rfl), (Nat.le_of_ble_eq_true rfl)⟩)
    dsimp only [Pt.U, Pt.locs, Pt.cells, Pt.slots] at X26 l26 y26 z26 st26 hQ26
    subst l26 y26 z26
    obtain ⟨rfl, N26q, e26⟩ := hQ26
    have N26 := Fr.app N24 N26q
    obtain ⟨_, _, ⟨T28, L28, k28, n28⟩, -, X28, ⟨Lc28, hQ28, l28, y28, z28⟩, st28⟩ := Jvm.LawKit.callS X26 hx (y := (⟨"com/example/libxdm/libxdm/model/XmlNames", "isWhitespace", "(I)Z"⟩ : MethodName)) hown (mvT hZ (hw _ (List.mem_of_getElem? (i := 0) rfl))) (mvT hZ (hw _ (List.mem_of_getElem? (i := 1) rfl))) (mvT hZ (hw _ (List.mem_of_getElem? (i := 2) rfl))) (mvT hZ (hw _ (List.mem_of_getElem? (i := 3) rfl))) (by decide) (backOf (W := 0) (rm1 l Z a0 hw [] (z25 ^^^ ((1 : Int32) <<< (((XT.ushr p2 (2 : Int32)) &&& (31 : Int32)) &&& 31))) h24 n0) hZ (hw _ (List.mem_of_getElem? (i := 3) rfl)) (hw _ (List.mem_of_getElem? (i := 2) rfl)) (by decide) (by decide)) (g := (mkF m 91 #[.val (.int p1), .val (.int p2), .val (.int (v1_0 p1)), .val (.ref a20), .val (.int z25), .val (.int (z25 ^^^ ((1 : Int32) <<< (((XT.ushr p2 (2 : Int32)) &&& (31 : Int32)) &&& 31))))] [(.int (z25 ^^^ ((1 : Int32) <<< (((XT.ushr p2 (2 : Int32)) &&& (31 : Int32)) &&& 31))))])) rfl (by rw [hml]; rfl) (argsL := [(.int (z25 ^^^ ((1 : Int32) <<< (((XT.ushr p2 (2 : Int32)) &&& (31 : Int32)) &&& 31))))]) (rest := []) (lenOf pd_0_0 rfl) rfl (by show 2 * 0 + _ ≤ _; exact Nat.le_of_eq rfl) (hb hby at_91) (fun _ _ => ⟨rfl, e26, (Nat.le_of_ble_eq_true rfl), (Nat.le_of_ble_eq_true rfl)⟩)
    dsimp only [Pt.U, Pt.locs, Pt.cells, Pt.slots] at X28 l28 y28 z28 st28 hQ28
    subst l28 y28 z28
    obtain ⟨rfl, N28q, e28⟩ := hQ28
    have N28 := Fr.app N26 N28q
    obtain ⟨_, _, ⟨T29, L29, k29, n29⟩, -, X29, ⟨Lc29, hQ29, l29, y29, z29⟩, st29⟩ := Jvm.LawKit.callS X28 hx (y := (⟨"com/example/libxdm/libxdm/model/XmlNamesIsWhitespacePinLaw", "ref", "(I)Z"⟩ : MethodName)) hown (mvT hZ (hw _ (List.mem_of_getElem? (i := 4) rfl))) (mvT hZ (hw _ (List.mem_of_getElem? (i := 5) rfl))) (mvT hZ (hw _ (List.mem_of_getElem? (i := 6) rfl))) (mvT hZ (hw _ (List.mem_of_getElem? (i := 7) rfl))) (by decide) (backOf (W := 1) (rm2 l Z a0 hw [] (z25 ^^^ ((1 : Int32) <<< (((XT.ushr p2 (2 : Int32)) &&& (31 : Int32)) &&& 31))) h24 n0) hZ (hw _ (List.mem_of_getElem? (i := 7) rfl)) (hw _ (List.mem_of_getElem? (i := 6) rfl)) (by decide) (by decide)) (g := (mkF m 96 #[.val (.int p1), .val (.int p2), .val (.int (v1_0 p1)), .val (.ref a20), .val (.int z25), .val (.int (z25 ^^^ ((1 : Int32) <<< (((XT.ushr p2 (2 : Int32)) &&& (31 : Int32)) &&& 31))))] [(.int (z25 ^^^ ((1 : Int32) <<< (((XT.ushr p2 (2 : Int32)) &&& (31 : Int32)) &&& 31)))), (.int (v1_0 (z25 ^^^ ((1 : Int32) <<< (((XT.ushr p2 (2 : Int32)) &&& (31 : Int32)) &&& 31)))))])) rfl (by rw [hml]; rfl) (argsL := [(.int (z25 ^^^ ((1 : Int32) <<< (((XT.ushr p2 (2 : Int32)) &&& (31 : Int32)) &&& 31))))]) (rest := [(.int (v1_0 (z25 ^^^ ((1 : Int32) <<< (((XT.ushr p2 (2 : Int32)) &&& (31 : Int32)) &&& 31)))))]) (lenOf pd_0_0 rfl) rfl (by show 2 * 0 + _ ≤ _; exact Nat.le_of_eq rfl) (hb hby at_96) (fun _ _ => ⟨rfl, e28, (Nat.le_of_ble_eq_true rfl), (Nat.le_of_ble_eq_true rfl)⟩)
    dsimp only [Pt.U, Pt.locs, Pt.cells, Pt.slots] at X29 l29 y29 z29 st29 hQ29
    subst l29 y29 z29
    obtain ⟨rfl, N29q, e29⟩ := hQ29
    have N29 := Fr.app N28 N29q
    obtain ⟨fs, hr, hrun, hended, hW, hsame⟩ := X29.leave (v := some (.int (1 : Int32))) (fun h => by rw [hret] at h; cases h)
    have N := N29
    refine ⟨_, _, pre0 _ ?_, hrun, hended, _, _, rfl, ⟨rfl, N⟩, ⟨_, rfl⟩, hW, hsame.mono (by decide) (by decide)⟩
    show Steps p.tables e below (s₁.setTop (mkF m 0 #[.val (.int p1), .val (.int p2), .unset, .unset, .unset, .unset] [])) _
    refine XS.iloadN X0.here hx rfl (hb hby at_0) rfl ?_
    show Steps p.tables e below (s₁.setTop (mkF m 1 #[.val (.int p1), .val (.int p2), .unset, .unset, .unset, .unset] [(.int p1)])) _
    refine st1 _ ?_
    show Steps p.tables e below (T1.setTop (mkF m 4 #[.val (.int p1), .val (.int p2), .unset, .unset, .unset, .unset] [(.int (v1_0 p1))])) _
    refine XS.istoreN X1.here hx rfl (hb hby at_4) rfl (l' := #[.val (.int p1), .val (.int p2), .val (.int (v1_0 p1)), .unset, .unset, .unset]) rfl ?_
    show Steps p.tables e below (T1.setTop (mkF m 5 #[.val (.int p1), .val (.int p2), .val (.int (v1_0 p1)), .unset, .unset, .unset] [])) _
    refine XS.iloadN X1.here hx rfl (hb hby at_5) rfl ?_
    show Steps p.tables e below (T1.setTop (mkF m 6 #[.val (.int p1), .val (.int p2), .val (.int (v1_0 p1)), .unset, .unset, .unset] [(.int (v1_0 p1))])) _
    refine XS.iloadN X1.here hx rfl (hb hby at_6) rfl ?_
    show Steps p.tables e below (T1.setTop (mkF m 7 #[.val (.int p1), .val (.int p2), .val (.int (v1_0 p1)), .unset, .unset, .unset] [(.int p1), (.int (v1_0 p1))])) _
    refine st2 _ ?_
    show Steps p.tables e below (T2.setTop (mkF m 10 #[.val (.int p1), .val (.int p2), .val (.int (v1_0 p1)), .unset, .unset, .unset] [(.int (v2_0 p1)), (.int (v1_0 p1))])) _
    refine XS.icmpYes X2.here hx rfl (pc0 := 10) (pc' := 15) rfl (hb hby at_10) rfl (teq (own_same p1)).1 (by decide) (by decide) ?_
    show Steps p.tables e below (T2.setTop (mkF m 15 #[.val (.int p1), .val (.int p2), .val (.int (v1_0 p1)), .unset, .unset, .unset] [])) _
    refine XS.iloadN X2.here hx rfl (hb hby at_15) rfl ?_
    show Steps p.tables e below (T2.setTop (mkF m 16 #[.val (.int p1), .val (.int p2), .val (.int (v1_0 p1)), .unset, .unset, .unset] [(.int (v1_0 p1))])) _
    refine XS.ifNo X2.here hx rfl (hb hby at_16) rfl ((if0 _ _).trans (feq hc4).1) ?_
    show Steps p.tables e below (T2.setTop (mkF m 19 #[.val (.int p1), .val (.int p2), .val (.int (v1_0 p1)), .unset, .unset, .unset] [])) _
    refine XS.iloadN X2.here hx rfl (hb hby at_19) rfl ?_
    show Steps p.tables e below (T2.setTop (mkF m 20 #[.val (.int p1), .val (.int p2), .val (.int (v1_0 p1)), .unset, .unset, .unset] [(.int p1)])) _
    refine st16 _ ?_
    show Steps p.tables e below (T16.setTop (mkF m 23 #[.val (.int p1), .val (.int p2), .val (.int (v1_0 p1)), .unset, .unset, .unset] [(.int (v3_0 p1))])) _
    refine XS.ifNo X16.here hx rfl (hb hby at_23) rfl ((if0 _ _).trans (feq (own_char p1 hc4)).1) ?_
    show Steps p.tables e below (T16.setTop (mkF m 26 #[.val (.int p1), .val (.int p2), .val (.int (v1_0 p1)), .unset, .unset, .unset] [])) _
    refine XS.iloadN X16.here hx rfl (hb hby at_26) rfl ?_
    show Steps p.tables e below (T16.setTop (mkF m 27 #[.val (.int p1), .val (.int p2), .val (.int (v1_0 p1)), .unset, .unset, .unset] [(.int p1)])) _
    refine st18 _ ?_
    show Steps p.tables e below (T18.setTop (mkF m 30 #[.val (.int p1), .val (.int p2), .val (.int (v1_0 p1)), .unset, .unset, .unset] [(.int (v4_0 p1))])) _
    refine XS.ifYes X18.here hx rfl (pc0 := 30) (pc' := 35) rfl (hb hby at_30) rfl ((if0 _ _).trans (teq (own_name p1 hc4)).1) (by decide) (by decide) ?_
    show Steps p.tables e below (T18.setTop (mkF m 35 #[.val (.int p1), .val (.int p2), .val (.int (v1_0 p1)), .unset, .unset, .unset] [])) _
    refine XS.iconst X18.here hx rfl (hb hby at_35) ?_
    show Steps p.tables e below (T18.setTop (mkF m 36 #[.val (.int p1), .val (.int p2), .val (.int (v1_0 p1)), .unset, .unset, .unset] [(.int (4 : Int32))])) _
    refine st20 _ ?_
    show Steps p.tables e below (T20.setTop (mkF m 38 #[.val (.int p1), .val (.int p2), .val (.int (v1_0 p1)), .unset, .unset, .unset] [(.ref a20)])) _
    refine XS.dup X20.here hx rfl (hb hby at_38) rfl rfl ?_
    show Steps p.tables e below (T20.setTop (mkF m 39 #[.val (.int p1), .val (.int p2), .val (.int (v1_0 p1)), .unset, .unset, .unset] [(.ref a20), (.ref a20)])) _
    refine XS.iconst X20.here hx rfl (hb hby at_39) ?_
    show Steps p.tables e below (T20.setTop (mkF m 40 #[.val (.int p1), .val (.int p2), .val (.int (v1_0 p1)), .unset, .unset, .unset] [(.int (0 : Int32)), (.ref a20), (.ref a20)])) _
    refine XS.bipush X20.here hx rfl (hb hby at_40) ?_
    show Steps p.tables e below (T20.setTop (mkF m 42 #[.val (.int p1), .val (.int p2), .val (.int (v1_0 p1)), .unset, .unset, .unset] [(.int (9 : Int32)), (.int (0 : Int32)), (.ref a20), (.ref a20)])) _
    refine st21 _ ?_
    show Steps p.tables e below (T21.setTop (mkF m 43 #[.val (.int p1), .val (.int p2), .val (.int (v1_0 p1)), .unset, .unset, .unset] [(.ref a20)])) _
    refine XS.dup X21.here hx rfl (hb hby at_43) rfl rfl ?_
    show Steps p.tables e below (T21.setTop (mkF m 44 #[.val (.int p1), .val (.int p2), .val (.int (v1_0 p1)), .unset, .unset, .unset] [(.ref a20), (.ref a20)])) _
    refine XS.iconst X21.here hx rfl (hb hby at_44) ?_
    show Steps p.tables e below (T21.setTop (mkF m 45 #[.val (.int p1), .val (.int p2), .val (.int (v1_0 p1)), .unset, .unset, .unset] [(.int (1 : Int32)), (.ref a20), (.ref a20)])) _
    refine XS.bipush X21.here hx rfl (hb hby at_45) ?_
    show Steps p.tables e below (T21.setTop (mkF m 47 #[.val (.int p1), .val (.int p2), .val (.int (v1_0 p1)), .unset, .unset, .unset] [(.int (10 : Int32)), (.int (1 : Int32)), (.ref a20), (.ref a20)])) _
    refine st22 _ ?_
    show Steps p.tables e below (T22.setTop (mkF m 48 #[.val (.int p1), .val (.int p2), .val (.int (v1_0 p1)), .unset, .unset, .unset] [(.ref a20)])) _
    refine XS.dup X22.here hx rfl (hb hby at_48) rfl rfl ?_
    show Steps p.tables e below (T22.setTop (mkF m 49 #[.val (.int p1), .val (.int p2), .val (.int (v1_0 p1)), .unset, .unset, .unset] [(.ref a20), (.ref a20)])) _
    refine XS.iconst X22.here hx rfl (hb hby at_49) ?_
    show Steps p.tables e below (T22.setTop (mkF m 50 #[.val (.int p1), .val (.int p2), .val (.int (v1_0 p1)), .unset, .unset, .unset] [(.int (2 : Int32)), (.ref a20), (.ref a20)])) _
    refine XS.bipush X22.here hx rfl (hb hby at_50) ?_
    show Steps p.tables e below (T22.setTop (mkF m 52 #[.val (.int p1), .val (.int p2), .val (.int (v1_0 p1)), .unset, .unset, .unset] [(.int (13 : Int32)), (.int (2 : Int32)), (.ref a20), (.ref a20)])) _
    refine st23 _ ?_
    show Steps p.tables e below (T23.setTop (mkF m 53 #[.val (.int p1), .val (.int p2), .val (.int (v1_0 p1)), .unset, .unset, .unset] [(.ref a20)])) _
    refine XS.dup X23.here hx rfl (hb hby at_53) rfl rfl ?_
    show Steps p.tables e below (T23.setTop (mkF m 54 #[.val (.int p1), .val (.int p2), .val (.int (v1_0 p1)), .unset, .unset, .unset] [(.ref a20), (.ref a20)])) _
    refine XS.iconst X23.here hx rfl (hb hby at_54) ?_
    show Steps p.tables e below (T23.setTop (mkF m 55 #[.val (.int p1), .val (.int p2), .val (.int (v1_0 p1)), .unset, .unset, .unset] [(.int (3 : Int32)), (.ref a20), (.ref a20)])) _
    refine XS.bipush X23.here hx rfl (hb hby at_55) ?_
    show Steps p.tables e below (T23.setTop (mkF m 57 #[.val (.int p1), .val (.int p2), .val (.int (v1_0 p1)), .unset, .unset, .unset] [(.int (32 : Int32)), (.int (3 : Int32)), (.ref a20), (.ref a20)])) _
    refine st24 _ ?_
    show Steps p.tables e below (T24.setTop (mkF m 58 #[.val (.int p1), .val (.int p2), .val (.int (v1_0 p1)), .unset, .unset, .unset] [(.ref a20)])) _
    refine XS.astoreN X24.here hx rfl (hb hby at_58) rfl rfl (l' := #[.val (.int p1), .val (.int p2), .val (.int (v1_0 p1)), .val (.ref a20), .unset, .unset]) rfl ?_
    show Steps p.tables e below (T24.setTop (mkF m 59 #[.val (.int p1), .val (.int p2), .val (.int (v1_0 p1)), .val (.ref a20), .unset, .unset] [])) _
    refine XS.aloadN X24.here hx rfl (hb hby at_59) rfl rfl ?_
    show Steps p.tables e below (T24.setTop (mkF m 60 #[.val (.int p1), .val (.int p2), .val (.int (v1_0 p1)), .val (.ref a20), .unset, .unset] [(.ref a20)])) _
    refine XS.iloadN X24.here hx rfl (hb hby at_60) rfl ?_
    show Steps p.tables e below (T24.setTop (mkF m 61 #[.val (.int p1), .val (.int p2), .val (.int (v1_0 p1)), .val (.ref a20), .unset, .unset] [(.int p2), (.ref a20)])) _
    refine XS.iconst X24.here hx rfl (hb hby at_61) ?_
    show Steps p.tables e below (T24.setTop (mkF m 62 #[.val (.int p1), .val (.int p2), .val (.int (v1_0 p1)), .val (.ref a20), .unset, .unset] [(.int (3 : Int32)), (.int p2), (.ref a20)])) _
    refine XS.iand X24.here hx rfl (hb hby at_62) rfl ?_
    show Steps p.tables e below (T24.setTop (mkF m 63 #[.val (.int p1), .val (.int p2), .val (.int (v1_0 p1)), .val (.ref a20), .unset, .unset] [(.int (p2 &&& (3 : Int32))), (.ref a20)])) _
    refine st25 _ ?_
    show Steps p.tables e below (T24.setTop (mkF m 64 #[.val (.int p1), .val (.int p2), .val (.int (v1_0 p1)), .val (.ref a20), .unset, .unset] [(.int z25)])) _
    refine XS.istore X24.here hx rfl (hb hby at_64) rfl (l' := #[.val (.int p1), .val (.int p2), .val (.int (v1_0 p1)), .val (.ref a20), .val (.int z25), .unset]) rfl ?_
    show Steps p.tables e below (T24.setTop (mkF m 66 #[.val (.int p1), .val (.int p2), .val (.int (v1_0 p1)), .val (.ref a20), .val (.int z25), .unset] [])) _
    refine XS.iload X24.here hx rfl (hb hby at_66) rfl ?_
    show Steps p.tables e below (T24.setTop (mkF m 68 #[.val (.int p1), .val (.int p2), .val (.int (v1_0 p1)), .val (.ref a20), .val (.int z25), .unset] [(.int z25)])) _
    refine st26 _ ?_
    show Steps p.tables e below (T26.setTop (mkF m 71 #[.val (.int p1), .val (.int p2), .val (.int (v1_0 p1)), .val (.ref a20), .val (.int z25), .unset] [(.int (v1_0 z25))])) _
    refine XS.ifYes X26.here hx rfl (pc0 := 71) (pc' := 76) rfl (hb hby at_71) rfl ((if0 _ _).trans (feq (hws)).2) (by decide) (by decide) ?_
    show Steps p.tables e below (T26.setTop (mkF m 76 #[.val (.int p1), .val (.int p2), .val (.int (v1_0 p1)), .val (.ref a20), .val (.int z25), .unset] [])) _
    refine XS.iload X26.here hx rfl (hb hby at_76) rfl ?_
    show Steps p.tables e below (T26.setTop (mkF m 78 #[.val (.int p1), .val (.int p2), .val (.int (v1_0 p1)), .val (.ref a20), .val (.int z25), .unset] [(.int z25)])) _
    refine XS.iconst X26.here hx rfl (hb hby at_78) ?_
    show Steps p.tables e below (T26.setTop (mkF m 79 #[.val (.int p1), .val (.int p2), .val (.int (v1_0 p1)), .val (.ref a20), .val (.int z25), .unset] [(.int (1 : Int32)), (.int z25)])) _
    refine XS.iloadN X26.here hx rfl (hb hby at_79) rfl ?_
    show Steps p.tables e below (T26.setTop (mkF m 80 #[.val (.int p1), .val (.int p2), .val (.int (v1_0 p1)), .val (.ref a20), .val (.int z25), .unset] [(.int p2), (.int (1 : Int32)), (.int z25)])) _
    refine XS.iconst X26.here hx rfl (hb hby at_80) ?_
    show Steps p.tables e below (T26.setTop (mkF m 81 #[.val (.int p1), .val (.int p2), .val (.int (v1_0 p1)), .val (.ref a20), .val (.int z25), .unset] [(.int (2 : Int32)), (.int p2), (.int (1 : Int32)), (.int z25)])) _
    refine XT.iushr X26.here hx rfl (hb hby at_81) rfl ?_
    show Steps p.tables e below (T26.setTop (mkF m 82 #[.val (.int p1), .val (.int p2), .val (.int (v1_0 p1)), .val (.ref a20), .val (.int z25), .unset] [(.int (XT.ushr p2 (2 : Int32))), (.int (1 : Int32)), (.int z25)])) _
    refine XS.bipush X26.here hx rfl (hb hby at_82) ?_
    show Steps p.tables e below (T26.setTop (mkF m 84 #[.val (.int p1), .val (.int p2), .val (.int (v1_0 p1)), .val (.ref a20), .val (.int z25), .unset] [(.int (31 : Int32)), (.int (XT.ushr p2 (2 : Int32))), (.int (1 : Int32)), (.int z25)])) _
    refine XS.iand X26.here hx rfl (hb hby at_84) rfl ?_
    show Steps p.tables e below (T26.setTop (mkF m 85 #[.val (.int p1), .val (.int p2), .val (.int (v1_0 p1)), .val (.ref a20), .val (.int z25), .unset] [(.int ((XT.ushr p2 (2 : Int32)) &&& (31 : Int32))), (.int (1 : Int32)), (.int z25)])) _
    refine XT.ishl X26.here hx rfl (hb hby at_85) rfl ?_
    show Steps p.tables e below (T26.setTop (mkF m 86 #[.val (.int p1), .val (.int p2), .val (.int (v1_0 p1)), .val (.ref a20), .val (.int z25), .unset] [(.int ((1 : Int32) <<< (((XT.ushr p2 (2 : Int32)) &&& (31 : Int32)) &&& 31))), (.int z25)])) _
    refine XT.ixor X26.here hx rfl (hb hby at_86) rfl ?_
    show Steps p.tables e below (T26.setTop (mkF m 87 #[.val (.int p1), .val (.int p2), .val (.int (v1_0 p1)), .val (.ref a20), .val (.int z25), .unset] [(.int (z25 ^^^ ((1 : Int32) <<< (((XT.ushr p2 (2 : Int32)) &&& (31 : Int32)) &&& 31))))])) _
    refine XS.istore X26.here hx rfl (hb hby at_87) rfl (l' := #[.val (.int p1), .val (.int p2), .val (.int (v1_0 p1)), .val (.ref a20), .val (.int z25), .val (.int (z25 ^^^ ((1 : Int32) <<< (((XT.ushr p2 (2 : Int32)) &&& (31 : Int32)) &&& 31))))]) rfl ?_
    show Steps p.tables e below (T26.setTop (mkF m 89 #[.val (.int p1), .val (.int p2), .val (.int (v1_0 p1)), .val (.ref a20), .val (.int z25), .val (.int (z25 ^^^ ((1 : Int32) <<< (((XT.ushr p2 (2 : Int32)) &&& (31 : Int32)) &&& 31))))] [])) _
    refine XS.iload X26.here hx rfl (hb hby at_89) rfl ?_
    show Steps p.tables e below (T26.setTop (mkF m 91 #[.val (.int p1), .val (.int p2), .val (.int (v1_0 p1)), .val (.ref a20), .val (.int z25), .val (.int (z25 ^^^ ((1 : Int32) <<< (((XT.ushr p2 (2 : Int32)) &&& (31 : Int32)) &&& 31))))] [(.int (z25 ^^^ ((1 : Int32) <<< (((XT.ushr p2 (2 : Int32)) &&& (31 : Int32)) &&& 31))))])) _
    refine st28 _ ?_
    show Steps p.tables e below (T28.setTop (mkF m 94 #[.val (.int p1), .val (.int p2), .val (.int (v1_0 p1)), .val (.ref a20), .val (.int z25), .val (.int (z25 ^^^ ((1 : Int32) <<< (((XT.ushr p2 (2 : Int32)) &&& (31 : Int32)) &&& 31))))] [(.int (v1_0 (z25 ^^^ ((1 : Int32) <<< (((XT.ushr p2 (2 : Int32)) &&& (31 : Int32)) &&& 31)))))])) _
    refine XS.iload X28.here hx rfl (hb hby at_94) rfl ?_
    show Steps p.tables e below (T28.setTop (mkF m 96 #[.val (.int p1), .val (.int p2), .val (.int (v1_0 p1)), .val (.ref a20), .val (.int z25), .val (.int (z25 ^^^ ((1 : Int32) <<< (((XT.ushr p2 (2 : Int32)) &&& (31 : Int32)) &&& 31))))] [(.int (z25 ^^^ ((1 : Int32) <<< (((XT.ushr p2 (2 : Int32)) &&& (31 : Int32)) &&& 31)))), (.int (v1_0 (z25 ^^^ ((1 : Int32) <<< (((XT.ushr p2 (2 : Int32)) &&& (31 : Int32)) &&& 31)))))])) _
    refine st29 _ ?_
    show Steps p.tables e below (T29.setTop (mkF m 99 #[.val (.int p1), .val (.int p2), .val (.int (v1_0 p1)), .val (.ref a20), .val (.int z25), .val (.int (z25 ^^^ ((1 : Int32) <<< (((XT.ushr p2 (2 : Int32)) &&& (31 : Int32)) &&& 31))))] [(.int (v2_0 (z25 ^^^ ((1 : Int32) <<< (((XT.ushr p2 (2 : Int32)) &&& (31 : Int32)) &&& 31))))), (.int (v1_0 (z25 ^^^ ((1 : Int32) <<< (((XT.ushr p2 (2 : Int32)) &&& (31 : Int32)) &&& 31)))))])) _
    refine XS.icmpYes X29.here hx rfl (pc0 := 99) (pc' := 104) rfl (hb hby at_99) rfl (teq (own_same (z25 ^^^ ((1 : Int32) <<< (((XT.ushr p2 (2 : Int32)) &&& (31 : Int32)) &&& 31))))).1 (by decide) (by decide) ?_
    show Steps p.tables e below (T29.setTop (mkF m 104 #[.val (.int p1), .val (.int p2), .val (.int (v1_0 p1)), .val (.ref a20), .val (.int z25), .val (.int (z25 ^^^ ((1 : Int32) <<< (((XT.ushr p2 (2 : Int32)) &&& (31 : Int32)) &&& 31))))] [])) _
    refine XS.iconst X29.here hx rfl (hb hby at_104) ?_
    show Steps p.tables e below (T29.setTop (mkF m 105 #[.val (.int p1), .val (.int p2), .val (.int (v1_0 p1)), .val (.ref a20), .val (.int z25), .val (.int (z25 ^^^ ((1 : Int32) <<< (((XT.ushr p2 (2 : Int32)) &&& (31 : Int32)) &&& 31))))] [(.int (1 : Int32))])) _
    exact retN X29 hx (t := .boolean) hret (by simp) (hb hby at_105) hr
set_option maxRecDepth 65536 in
set_option maxHeartbeats 40000000 in
theorem comes_1 {Post : Tables → Env → Array Value → State → Outcome → State → Prop} (hpost : ∀ tb e args s v u, (limb_1_1.after args s (.returned v) u = true ∧ limb_1_2.after args s (.returned v) u = true ∧ True) → FrameEnd s (.returned v) u (Jvm.fieldLocs frame_1_writes args s ++ Jvm.arrayLocs frame_1_arrays args s ++ Jvm.staticLocs frame_1_statics s) 16 128 → Post tb e args s (.returned v) u) :
    ArmFor flags0 classFile x code maxLocals ret World_1 tables_1 room_1 Calls_1 rest_1 Pre_1 Post := by
  intro l hfl _ _ p e ha hc hk s m args below hf hA hF happ hP
  obtain ⟨hcalls, hrest, hpre⟩ := hP
  obtain ⟨-, -, -, hnamed, -, -, -, hat⟩ := (Spec.applies_iff hf).mp happ
  obtain ⟨hg, hn⟩ := and_e (Cond.before_iff.mp (show (Jvm.Cond.and given_1 narrow_1).before args s = true from hpre))
  obtain ⟨gc, g0⟩ := and_e hg
  obtain ⟨ga0, g1⟩ := and_e g0
  obtain ⟨w0, w1, rfl⟩ : ∃ w0 w1 : Value, args = #[w0, w1] := by
    have hs : args.size = 2 := by simpa [Cond.value, given_1] using gc
    obtain ⟨L⟩ := args
    match L, hs with
    | [w0, w1], _ => exact ⟨w0, w1, rfl⟩
  have hw := fun d (hd : d ∈ tables_1) => atoms_spec (ws := Jvm.Cond.code x code maxLocals ret :: tables_1) hat d (List.mem_cons_of_mem _ hd)
  obtain ⟨i0, ei0⟩ := is_v ga0
  obtain rfl : w0 = (.int i0) := Option.some.inj ei0
  obtain ⟨i1, ei1⟩ := is_v g1
  obtain rfl : w1 = (.int i1) := Option.some.inj ei1
  obtain ⟨n, o, h1, h2, h3, _, L, rfl, ⟨rfl, N⟩, hq⟩ := rm0 l s _ hw tables_1 i0 i1 s.heap s.heap.size (Nat.le_refl _) p e ha hc hk s m _ below hf ((Spec.applies_iff_loose hf).mp happ).1 ⟨rfl, State.Warmed39.refl s, rfl⟩ trivial
  refine ⟨n, _, h1, h2, h3, hpost _ _ _ _ _ _ ⟨Cond.after_iff.mpr rfl, Cond.after_iff.mpr (eq_i res_at (Term.int_eval (1)) rfl), trivial⟩ ⟨hq.1, hq.2.1, (hq.2.2.sift fun y hy => Or.inr (N y hy)).mono (by decide) (by decide)⟩⟩
theorem main_1_1 : Claimed_1_1 := comes_1 fun _ _ _ _ _ _ h hF => ⟨h.1, hF⟩
theorem main_1_2 : Claimed_1_2 := comes_1 fun _ _ _ _ _ _ h hF => ⟨h.2.1, hF⟩
end Jvm.Pilot.@@N@@
namespace Jvm.Pilot.@@N@@
open Jvm Jvm.ClassFile Sem Op Lib Jvm.Free Jvm.Stand Jvm.Pilot.@@N@@.Jvm.D
/-! MADE BY PROGRAM (witnessworld.py) out of the Statement's table words and the real class files: 9 classes; the members and pool entries that the words name. The judged class is class 1, her method 2. -/
namespace start1
open Jvm.ClassFile
def u (s : String) : CpInfo := .utf8 (stringToUtf16 s)
/-- a pool by its gaps: so many unusable entries, then the entry; so many at the end -/
def gap : Nat → List CpInfo → List CpInfo
  | 0, r => r
  | n + 1, r => .unusable :: gap n r
def poolList (es : List (Nat × CpInfo)) (last : Nat) : List CpInfo := es.foldr (fun e r => gap e.1 (e.2 :: r)) (gap last [])
def pool (es : List (Nat × CpInfo)) (last : Nat) : Array CpInfo := ⟨poolList es last⟩
def fileOf (pool : Array CpInfo) (this : Nat) (attrs : Array Attribute := #[]) (ms : Array MethodInfo := #[]) (fl : Nat := 33) (sup : Nat := 0) (ifs : Array Nat := #[]) (fds : Array FieldInfo := #[]) : ClassFile where
  minorVersion := 0
  majorVersion := 65
  constantPool := pool
  accessFlags := fl
  thisClass := this
  superClass := sup
  interfaces := ifs
  fields := fds
  methods := ms
  attributes := attrs
def plain (name : String) (sup : Option ClassId) : Class where
  name := name
  kind := .ordinary
  loader := none
  accessFlags := 33
  super := sup
  interfaces := #[]
  cf := none
  fields := #[]
  methods := #[]
  instanceTypes := #[]
  staticTypes := #[]
  resolved := #[]
  callSites := []
  init := .initialized
  statics := none
  mirror := none

def pool0 : Array CpInfo := pool [(5, u "<init>"), (0, u "()V"), (1, .class_ 10), (1, u "java/lang/Object")] 113

def k0m0 : Method := { name := "<init>", desc := "()V", sig := { parameters := [], returnType := none }, accessFlags := 1, code := none }
/-- java/lang/Object -/
def k0 : Class := { plain "java/lang/Object" none with
  accessFlags := 33
  interfaces := #[]
  cf := some (fileOf pool0 8 #[] #[{ accessFlags := 1, nameIndex := 5, descriptorIndex := 6, attributes := #[] }] 33 0 #[] #[])
  fields := #[]
  methods := #[k0m0]
  instanceTypes := #[]
  staticTypes := #[]
  resolved := Array.replicate 124 none
  statics := none }

def pool1 : Array CpInfo := pool [(2, .class_ 4), (1, u "java/lang/Object"), (0, u "<init>"), (0, u "()V"), (0, .methodref 8 9), (0, .class_ 10), (0, .nameAndType 11 12), (0, u "com/example/libxdm/libxdm/model/XmlNames"), (0, u "isWhitespace"), (0, u "(I)Z"), (0, .methodref 14 15), (0, .class_ 16), (0, .nameAndType 17 12), (0, u "com/example/libxdm/libxdm/model/XmlNamesIsWhitespacePinLaw"), (0, u "ref"), (0, .methodref 8 19), (0, .nameAndType 20 12), (0, u "isCharacter"), (0, .methodref 8 22), (0, .nameAndType 23 12), (0, u "isNameCharacter"), (3, u "law"), (0, u "(II)Z")] 4

def k1m0 : Method := { name := "<init>", desc := "()V", sig := { parameters := [], returnType := none }, accessFlags := 2, code := none }
def k1c1 : Code := { maxStack := 2, maxLocals := 1, code := method_2_code, exceptionTable := #[], attributes := #[] }
def k1m1 : Method := { name := "ref", desc := "(I)Z", sig := { parameters := [.int], returnType := some .boolean }, accessFlags := 10, code := some k1c1 }
def k1c2 : Code := { maxStack := 4, maxLocals := 6, code := code, exceptionTable := #[], attributes := #[] }
def k1m2 : Method := { name := "law", desc := "(II)Z", sig := { parameters := [.int, .int], returnType := some .boolean }, accessFlags := 9, code := some k1c2 }
/-- com/example/libxdm/libxdm/model/XmlNamesIsWhitespacePinLaw -/
def k1 : Class := { plain "com/example/libxdm/libxdm/model/XmlNamesIsWhitespacePinLaw" (some 0) with
  accessFlags := 49
  interfaces := #[]
  cf := some (fileOf pool1 14 #[] #[{ accessFlags := 2, nameIndex := 5, descriptorIndex := 6, attributes := #[] }, { accessFlags := 10, nameIndex := 17, descriptorIndex := 12, attributes := #[] }, { accessFlags := 9, nameIndex := 27, descriptorIndex := 28, attributes := #[] }] 49 2 #[] #[])
  fields := #[]
  methods := #[k1m0, k1m1, k1m2]
  instanceTypes := #[]
  staticTypes := #[]
  resolved := Array.replicate 33 none
  statics := none }

def pool2 : Array CpInfo := pool [(2, .class_ 4), (1, u "java/lang/Object"), (0, u "<init>"), (0, u "()V"), (0, .integer 55295), (0, .integer 57344), (0, .integer 65533), (0, .integer 65536), (0, .integer 1114111), (11, .class_ 25), (1, u "com/example/libxdm/libxdm/model/XmlNames"), (0, u "isWhitespace"), (0, u "(I)Z"), (12, .methodref 23 41), (0, .nameAndType 42 27), (0, u "isNameStart"), (7, u "isNameCharacter"), (0, .integer 63744), (0, .integer 64975), (0, .integer 65008), (0, .integer 983039), (0, u "XML_NAMESPACE"), (0, u "Ljava/lang/String;"), (5, u "isCharacter")] 7

def k2m0 : Method := { name := "<init>", desc := "()V", sig := { parameters := [], returnType := none }, accessFlags := 2, code := none }
def k2c1 : Code := { maxStack := 2, maxLocals := 1, code := prog_162_method_2_code, exceptionTable := #[], attributes := #[] }
def k2m1 : Method := { name := "isCharacter", desc := "(I)Z", sig := { parameters := [.int], returnType := some .boolean }, accessFlags := 9, code := some k2c1 }
def k2c2 : Code := { maxStack := 2, maxLocals := 1, code := prog_162_method_3_code, exceptionTable := #[], attributes := #[] }
def k2m2 : Method := { name := "isWhitespace", desc := "(I)Z", sig := { parameters := [.int], returnType := some .boolean }, accessFlags := 9, code := some k2c2 }
def k2c3 : Code := { maxStack := 2, maxLocals := 1, code := prog_162_method_6_code, exceptionTable := #[], attributes := #[] }
def k2m3 : Method := { name := "isNameStart", desc := "(I)Z", sig := { parameters := [.int], returnType := some .boolean }, accessFlags := 9, code := some k2c3 }
def k2c4 : Code := { maxStack := 2, maxLocals := 1, code := prog_162_method_7_code, exceptionTable := #[], attributes := #[] }
def k2m4 : Method := { name := "isNameCharacter", desc := "(I)Z", sig := { parameters := [.int], returnType := some .boolean }, accessFlags := 9, code := some k2c4 }
/-- com/example/libxdm/libxdm/model/XmlNames -/
def k2 : Class := { plain "com/example/libxdm/libxdm/model/XmlNames" (some 0) with
  accessFlags := 49
  interfaces := #[]
  cf := some (fileOf pool2 23 #[] #[{ accessFlags := 2, nameIndex := 5, descriptorIndex := 6, attributes := #[] }, { accessFlags := 9, nameIndex := 62, descriptorIndex := 27, attributes := #[] }, { accessFlags := 9, nameIndex := 26, descriptorIndex := 27, attributes := #[] }, { accessFlags := 9, nameIndex := 42, descriptorIndex := 27, attributes := #[] }, { accessFlags := 9, nameIndex := 50, descriptorIndex := 27, attributes := #[] }] 49 2 #[] #[{ accessFlags := 25, nameIndex := 55, descriptorIndex := 56, attributes := #[] }])
  fields := #[{ name := "XML_NAMESPACE", type := (.object "java/lang/String"), accessFlags := 25, slot := 0, constantValue := 0 }]
  methods := #[k2m0, k2m1, k2m2, k2m3, k2m4]
  instanceTypes := #[]
  staticTypes := #[(.object "java/lang/String")]
  resolved := Array.replicate 70 none
  statics := none }

def pool3 : Array CpInfo := pool [(1, u "java/lang/Cloneable"), (0, .class_ 1), (0, u "java/lang/Object"), (0, .class_ 3)] 3

/-- java/lang/Cloneable -/
def k3 : Class := { plain "java/lang/Cloneable" (some 0) with
  accessFlags := 1537
  interfaces := #[]
  cf := some (fileOf pool3 2 #[] #[] 1537 4 #[] #[])
  fields := #[]
  methods := #[]
  instanceTypes := #[]
  staticTypes := #[]
  resolved := Array.replicate 8 none
  statics := none }

def pool4 : Array CpInfo := pool [(1, u "java/io/Serializable"), (0, .class_ 1), (0, u "java/lang/Object"), (0, .class_ 3)] 3

/-- java/io/Serializable -/
def k4 : Class := { plain "java/io/Serializable" (some 0) with
  accessFlags := 1537
  interfaces := #[]
  cf := some (fileOf pool4 2 #[] #[] 1537 4 #[] #[])
  fields := #[]
  methods := #[]
  instanceTypes := #[]
  staticTypes := #[]
  resolved := Array.replicate 8 none
  statics := none }

/-- the primitive byte -/
def k5 : Class := { plain "byte" none with kind := .primitive 'B', accessFlags := 0x411 }
/-- [B -/
def k6 : Class := { plain "[B" (some 0) with kind := .array 5 .byte, interfaces := #[3, 4], accessFlags := 1041 }

/-- the primitive int -/
def k7 : Class := { plain "int" none with kind := .primitive 'I', accessFlags := 0x411 }
/-- [I -/
def k8 : Class := { plain "[I" (some 0) with kind := .array 7 .int, interfaces := #[3, 4], accessFlags := 1041 }

def heap : Heap := #[]
def classes : Array Class := #[k0, k1, k2, k3, k4, k5, k6, k7, k8]
def interned : List (Array UInt16 × Addr) := []
def slotsUsed : Nat := 0
def theMethod : MethodId := ⟨1, 2⟩
def args0 : Array Value := #[.int 32, .int 5]
def aboutOver (below : List Frame) : State where
  vm := { classes := classes, interned := interned.toArray }
  heap := heap
  slotsUsed := slotsUsed
  threads := #[{ frames := .invoking theMethod args0 :: below }]
def below0 : List Frame := [.native { method := ⟨0, 0⟩, args := #[] }]
def about1 : State := aboutOver below0
def p0 : Program := .bare "" "" ""
def e0 : Env := launch0.env 0 0 0
theorem w_frames : about1.frames = Frame.invoking theMethod args0 :: below0 := rfl
set_option maxRecDepth 65536 in
theorem w_args : argsFit about1.vm theMethod args0 = true := by decide +kernel
set_option maxRecDepth 65536 in
theorem w_heap : heapFits about1 = true := by decide +kernel
set_option maxRecDepth 65536 in
theorem w_runnable : about1.curStatus? = some .runnable := by decide +kernel
set_option maxRecDepth 65536 in
theorem w_alone : about1.alone = true := by decide +kernel
set_option maxRecDepth 65536 in
theorem w_named : about1.methodNamed? x = some theMethod := by decide +kernel
set_option maxRecDepth 65536 in
theorem w_hears : about1.hears theMethod below0 = true := by decide +kernel
set_option maxRecDepth 65536 in
theorem w_ripe : about1.ripe theMethod args0 below0 = true := by decide +kernel
theorem w_running : about1.status = .running := rfl
set_option maxRecDepth 65536 in
theorem w_room : about1.hasRoom e0.platform room_1 = true :=
  launch0.hasRoom_least _ room_1 (by decide +kernel) (by decide +kernel) (by decide +kernel) (by decide +kernel) (by decide +kernel) (by decide +kernel)
theorem allAtoms_all (ts : List Jvm.Cond) (a : Array Jvm.Value) (st : Jvm.State) : (allAtoms ts).before a st = ts.all (fun c => c.before a st) := by
  induction ts with
  | nil => rfl
  | cons c t ih =>
    show (Jvm.Cond.and c (allAtoms t)).before a st = _
    rw [Jvm.Cond.before_and, ih, List.all_cons]
def words1 : List Jvm.Cond := Jvm.Cond.code x code maxLocals ret :: tables_1
/-- a 'code' word, met by the world's own term for the bytes: nothing is compared byte by byte -/
theorem code_word {y : MethodName} {bytes : ByteArray} {mx : Nat} {rt : Option FieldType} {a : Array Value} {s : State} {m : MethodId} {meth : Method} {c : Code} (h1 : s.methodNamed? y = some m) (h2 : s.vm.method? m = some meth) (h3 : meth.code = some c) (h4 : c.code = bytes)
    (h5 : (c.maxLocals == mx && c.exceptionTable.isEmpty && decide (c.maxStack ≤ mostOperands) && decide (meth.sig.returnType = rt) && !meth.locks && decide (parseMethodDescriptor y.desc = some meth.sig)) = true) : (Jvm.Cond.code y bytes mx rt).before a s = true := by
  simp only [Bool.and_eq_true, beq_iff_eq, Bool.not_eq_true', decide_eq_true_eq] at h5
  obtain ⟨⟨⟨⟨⟨g1, g2⟩, g3⟩, g4⟩, g5⟩, g6⟩ := h5
  simp [Cond.before, Cond.holds, Cond.value, h1, h2, h3, h4, g1, g2, g3, g4, g5, g6]
def isCode : Jvm.Cond → Bool
  | .code _ _ _ _ => true
  | _ => false
theorem all_split {L : List Jvm.Cond} {P : Jvm.Cond → Bool} (h1 : L.all (fun c => isCode c || P c) = true) (h2 : ∀ c ∈ L.filter isCode, P c = true) : L.all P = true := by
  refine List.all_eq_true.mpr fun c hc => ?_
  have h := List.all_eq_true.mp h1 c hc
  rcases Bool.eq_false_or_eq_true (isCode c) with hi | hi
  · exact h2 c (List.mem_filter.mpr ⟨hc, hi⟩)
  · simpa [hi] using h
set_option maxRecDepth 65536 in
theorem w_c0 : (Jvm.Cond.code x code maxLocals ret).before args0 about1 = true := code_word (m := ⟨1, 2⟩) (meth := k1m2) (c := k1c2) (by decide +kernel) rfl rfl rfl (by decide +kernel)
set_option maxRecDepth 65536 in
theorem w_c1 : (Jvm.Cond.code ({ cls := "com/example/libxdm/libxdm/model/XmlNames", name := "isWhitespace", desc := "(I)Z" } : Jvm.MethodName) prog_162_method_3_code (1 : Nat) (Option.some Jvm.ClassFile.FieldType.boolean)).before args0 about1 = true := code_word (m := ⟨2, 2⟩) (meth := k2m2) (c := k2c2) (by decide +kernel) rfl rfl rfl (by decide +kernel)
set_option maxRecDepth 65536 in
theorem w_c2 : (Jvm.Cond.code ({ cls := "com/example/libxdm/libxdm/model/XmlNamesIsWhitespacePinLaw", name := "ref", desc := "(I)Z" } : Jvm.MethodName) method_2_code (1 : Nat) (Option.some Jvm.ClassFile.FieldType.boolean)).before args0 about1 = true := code_word (m := ⟨1, 1⟩) (meth := k1m1) (c := k1c1) (by decide +kernel) rfl rfl rfl (by decide +kernel)
set_option maxRecDepth 65536 in
theorem w_c3 : (Jvm.Cond.code ({ cls := "com/example/libxdm/libxdm/model/XmlNames", name := "isCharacter", desc := "(I)Z" } : Jvm.MethodName) prog_162_method_2_code (1 : Nat) (Option.some Jvm.ClassFile.FieldType.boolean)).before args0 about1 = true := code_word (m := ⟨2, 1⟩) (meth := k2m1) (c := k2c1) (by decide +kernel) rfl rfl rfl (by decide +kernel)
set_option maxRecDepth 65536 in
theorem w_c4 : (Jvm.Cond.code ({ cls := "com/example/libxdm/libxdm/model/XmlNames", name := "isNameCharacter", desc := "(I)Z" } : Jvm.MethodName) prog_162_method_7_code (1 : Nat) (Option.some Jvm.ClassFile.FieldType.boolean)).before args0 about1 = true := code_word (m := ⟨2, 4⟩) (meth := k2m4) (c := k2c4) (by decide +kernel) rfl rfl rfl (by decide +kernel)
set_option maxRecDepth 65536 in
theorem w_c5 : (Jvm.Cond.code ({ cls := "com/example/libxdm/libxdm/model/XmlNames", name := "isNameStart", desc := "(I)Z" } : Jvm.MethodName) prog_162_method_6_code (1 : Nat) (Option.some Jvm.ClassFile.FieldType.boolean)).before args0 about1 = true := code_word (m := ⟨2, 3⟩) (meth := k2m3) (c := k2c3) (by decide +kernel) rfl rfl rfl (by decide +kernel)
def codes1 : List Jvm.Cond := [Jvm.Cond.code x code maxLocals ret, Jvm.Cond.code ({ cls := "com/example/libxdm/libxdm/model/XmlNames", name := "isWhitespace", desc := "(I)Z" } : Jvm.MethodName) prog_162_method_3_code (1 : Nat) (Option.some Jvm.ClassFile.FieldType.boolean), Jvm.Cond.code ({ cls := "com/example/libxdm/libxdm/model/XmlNamesIsWhitespacePinLaw", name := "ref", desc := "(I)Z" } : Jvm.MethodName) method_2_code (1 : Nat) (Option.some Jvm.ClassFile.FieldType.boolean), Jvm.Cond.code ({ cls := "com/example/libxdm/libxdm/model/XmlNames", name := "isCharacter", desc := "(I)Z" } : Jvm.MethodName) prog_162_method_2_code (1 : Nat) (Option.some Jvm.ClassFile.FieldType.boolean), Jvm.Cond.code ({ cls := "com/example/libxdm/libxdm/model/XmlNames", name := "isNameCharacter", desc := "(I)Z" } : Jvm.MethodName) prog_162_method_7_code (1 : Nat) (Option.some Jvm.ClassFile.FieldType.boolean), Jvm.Cond.code ({ cls := "com/example/libxdm/libxdm/model/XmlNames", name := "isNameStart", desc := "(I)Z" } : Jvm.MethodName) prog_162_method_6_code (1 : Nat) (Option.some Jvm.ClassFile.FieldType.boolean)]
set_option maxRecDepth 65536 in
theorem codes_eq : words1.filter isCode = codes1 := rfl
theorem w_codes : ∀ c ∈ words1.filter isCode, c.before args0 about1 = true := by
  rw [codes_eq]
  intro c hc
  simp only [codes1, List.mem_cons, List.not_mem_nil, or_false] at hc
  rcases hc with rfl | rfl | rfl | rfl | rfl | rfl
  · exact w_c0
  · exact w_c1
  · exact w_c2
  · exact w_c3
  · exact w_c4
  · exact w_c5
set_option maxRecDepth 65536 in
theorem w_t1 : (words1.take 24).all (fun c => isCode c || c.before args0 about1) = true := by decide +kernel
set_option maxRecDepth 65536 in
theorem w_t2 : (words1.drop 24).all (fun c => isCode c || c.before args0 about1) = true := by decide +kernel
theorem w_tables : (allAtoms (Jvm.Cond.code x code maxLocals ret :: tables_1)).before args0 about1 = true := by
  rw [allAtoms_all]
  show words1.all (fun c => c.before args0 about1) = true
  refine all_split ?_ w_codes
  rw [← List.take_append_drop 24 words1, List.all_append, w_t1, w_t2]
  rfl
set_option maxRecDepth 65536 in
theorem w_case : (Jvm.Cond.and given_1 narrow_1).before args0 about1 = true := by decide +kernel
theorem w_applies : (headSpec (Jvm.Cond.code x code maxLocals ret :: tables_1) room_1).applies x e0.platform about1 = true :=
  (Spec.applies_iff w_frames).mpr ⟨w_running, w_runnable, w_alone, w_named, w_hears, w_ripe, w_room, w_tables⟩
theorem atStart : AtStart classFile x code maxLocals ret World_1 tables_1 room_1 Calls_1 rest_1 Pre_1 launch0 p0 e0 about1 theMethod args0 below0 :=
  ⟨lists_1, trivial, launch0.admits_env _ _ _, launch0.least_env, fairChoices_fair.cas, fairChoices_fair.clock, w_frames, w_args, w_heap, w_applies, trivial, trivial, w_case⟩
end start1
theorem witness_1 : WitnessClaimed_1 := ⟨start1.p0, start1.e0, start1.about1, start1.theMethod, start1.args0, start1.below0, start1.atStart⟩
end Jvm.Pilot.@@N@@
