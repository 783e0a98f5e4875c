import JvmDerived
import JvmDerived.Pilot.@@N@@Statement
import JvmDerived.Pilot.@@N@@Code
set_option linter.unusedVariables false
set_option linter.unusedSimpArgs false
namespace Jvm.Pilot.@@N@@
open Jvm Jvm.ClassFile Sem Op Lib Jvm.Free Jvm.Stand Jvm.LawKit Jvm.RoadKit Bundle Jvm.Pilot.@@N@@.Jvm.D
theorem d1_0 : decode prog_131_method_15_code 0 = .ok (.iload_n 0, 1) := by decide +kernel
theorem d1_1 : decode prog_131_method_15_code 1 = .ok (.bipush 65, 2) := by decide +kernel
theorem d1_3 : decode prog_131_method_15_code 3 = .ok (.if_icmp .lt 9, 3) := by decide +kernel
theorem d1_6 : decode prog_131_method_15_code 6 = .ok (.iload_n 0, 1) := by decide +kernel
theorem d1_7 : decode prog_131_method_15_code 7 = .ok (.bipush 90, 2) := by decide +kernel
theorem d1_9 : decode prog_131_method_15_code 9 = .ok (.if_icmp .le 21, 3) := by decide +kernel
theorem d1_12 : decode prog_131_method_15_code 12 = .ok (.iload_n 0, 1) := by decide +kernel
theorem d1_13 : decode prog_131_method_15_code 13 = .ok (.bipush 97, 2) := by decide +kernel
theorem d1_15 : decode prog_131_method_15_code 15 = .ok (.if_icmp .lt 9, 3) := by decide +kernel
theorem d1_18 : decode prog_131_method_15_code 18 = .ok (.iload_n 0, 1) := by decide +kernel
theorem d1_19 : decode prog_131_method_15_code 19 = .ok (.bipush 122, 2) := by decide +kernel
theorem d1_21 : decode prog_131_method_15_code 21 = .ok (.if_icmp .le 9, 3) := by decide +kernel
theorem d1_24 : decode prog_131_method_15_code 24 = .ok (.iload_n 0, 1) := by decide +kernel
theorem d1_25 : decode prog_131_method_15_code 25 = .ok (.bipush 95, 2) := by decide +kernel
theorem d1_27 : decode prog_131_method_15_code 27 = .ok (.if_icmp .ne 7, 3) := by decide +kernel
theorem d1_30 : decode prog_131_method_15_code 30 = .ok (.iconst 1, 1) := by decide +kernel
theorem d1_31 : decode prog_131_method_15_code 31 = .ok (.goto 4, 3) := by decide +kernel
theorem d1_34 : decode prog_131_method_15_code 34 = .ok (.iconst 0, 1) := by decide +kernel
theorem d1_35 : decode prog_131_method_15_code 35 = .ok (.ireturn, 1) := by decide +kernel
def v1_34 (x : Int32) : Int32 := (0 : Int32)
set_option maxRecDepth 65536 in
set_option maxHeartbeats 40000000 in
theorem b1_34 {p : Program} {l : Launch} {e : Env} {R : Room} {s : State} {m : MethodId} {args : Array Value} {below : List Frame} {meth : Method} {c : Code} {T : State} {locs : List Loc} {cells slots : Nat} {Z : State} {a0 : Array Value} (X : Stand p l e R s m args below meth c T locs cells slots) (hx : p.tables.exec = Jvm.exec) (hZ : Z.Warmed39 s.vm) (hw : ∀ d ∈ tables_1, d.before a0 Z = true) (hby : c.code = prog_131_method_15_code) (hown : s.vm.findClass "com/example/spurion/spurion/model/Lexer" = some m.cls) (hret : meth.sig.returnType = some .boolean) (x w : Int32) (hv : v1_34 x = w) {fs : List Frame} (hr : ∀ (f : JFrame) (acts : List Action), f.method = m → f.locked = none → f.entered = [] → (doReturn e (T.setTop f) acts (some (.int w))).1 = T.setFrames fs) : Steps p.tables e below (T.setTop (mkF m 34 #[.val (.int x)] [])) (T.setFrames fs) := by
  change (0 : Int32) = w at hv
  show Steps p.tables e below (T.setTop (mkF m 34 #[.val (.int x)] [])) _
  refine XS.iconst X.here hx rfl (hb hby d1_34) ?_
  show Steps p.tables e below (T.setTop (mkF m 35 #[.val (.int x)] [(.int (0 : Int32))])) _
  subst hv
  exact retN X hx (t := .boolean) hret (by simp) (hb hby d1_35) hr
def v1_30 (x : Int32) : Int32 := (1 : Int32)
set_option maxRecDepth 65536 in
set_option maxHeartbeats 40000000 in
theorem b1_30 {p : Program} {l : Launch} {e : Env} {R : Room} {s : State} {m : MethodId} {args : Array Value} {below : List Frame} {meth : Method} {c : Code} {T : State} {locs : List Loc} {cells slots : Nat} {Z : State} {a0 : Array Value} (X : Stand p l e R s m args below meth c T locs cells slots) (hx : p.tables.exec = Jvm.exec) (hZ : Z.Warmed39 s.vm) (hw : ∀ d ∈ tables_1, d.before a0 Z = true) (hby : c.code = prog_131_method_15_code) (hown : s.vm.findClass "com/example/spurion/spurion/model/Lexer" = some m.cls) (hret : meth.sig.returnType = some .boolean) (x w : Int32) (hv : v1_30 x = w) {fs : List Frame} (hr : ∀ (f : JFrame) (acts : List Action), f.method = m → f.locked = none → f.entered = [] → (doReturn e (T.setTop f) acts (some (.int w))).1 = T.setFrames fs) : Steps p.tables e below (T.setTop (mkF m 30 #[.val (.int x)] [])) (T.setFrames fs) := by
  change (1 : Int32) = w at hv
  show Steps p.tables e below (T.setTop (mkF m 30 #[.val (.int x)] [])) _
  refine XS.iconst X.here hx rfl (hb hby d1_30) ?_
  show Steps p.tables e below (T.setTop (mkF m 31 #[.val (.int x)] [(.int (1 : Int32))])) _
  refine XS.goto X.here hx rfl (pc0 := 31) (pc' := 35) rfl (hb hby d1_31) (by decide) (by decide) ?_
  show Steps p.tables e below (T.setTop (mkF m 35 #[.val (.int x)] [(.int (1 : Int32))])) _
  subst hv
  exact retN X hx (t := .boolean) hret (by simp) (hb hby d1_35) hr
def v1_24 (x : Int32) : Int32 := (if x = (95 : Int32) then v1_30 x else v1_34 x)
set_option maxRecDepth 65536 in
set_option maxHeartbeats 40000000 in
theorem b1_24 {p : Program} {l : Launch} {e : Env} {R : Room} {s : State} {m : MethodId} {args : Array Value} {below : List Frame} {meth : Method} {c : Code} {T : State} {locs : List Loc} {cells slots : Nat} {Z : State} {a0 : Array Value} (X : Stand p l e R s m args below meth c T locs cells slots) (hx : p.tables.exec = Jvm.exec) (hZ : Z.Warmed39 s.vm) (hw : ∀ d ∈ tables_1, d.before a0 Z = true) (hby : c.code = prog_131_method_15_code) (hown : s.vm.findClass "com/example/spurion/spurion/model/Lexer" = some m.cls) (hret : meth.sig.returnType = some .boolean) (x w : Int32) (hv : v1_24 x = w) {fs : List Frame} (hr : ∀ (f : JFrame) (acts : List Action), f.method = m → f.locked = none → f.entered = [] → (doReturn e (T.setTop f) acts (some (.int w))).1 = T.setFrames fs) : Steps p.tables e below (T.setTop (mkF m 24 #[.val (.int x)] [])) (T.setFrames fs) := by
  change (if x = (95 : Int32) then v1_30 x else v1_34 x) = w at hv
  show Steps p.tables e below (T.setTop (mkF m 24 #[.val (.int x)] [])) _
  refine XS.iloadN X.here hx rfl (hb hby d1_24) rfl ?_
  show Steps p.tables e below (T.setTop (mkF m 25 #[.val (.int x)] [(.int x)])) _
  refine XS.bipush X.here hx rfl (hb hby d1_25) ?_
  show Steps p.tables e below (T.setTop (mkF m 27 #[.val (.int x)] [(.int (95 : Int32)), (.int x)])) _
  by_cases hc0 : x = (95 : Int32)
  · rw [if_pos hc0] at hv
    refine XS.icmpNo X.here hx rfl (hb hby d1_27) rfl (teq hc0).2 ?_
    exact b1_30 X hx hZ hw hby hown hret x w hv hr
  · rw [if_neg hc0] at hv
    refine XS.icmpYes X.here hx rfl (pc0 := 27) (pc' := 34) rfl (hb hby d1_27) rfl (feq hc0).2 (by decide) (by decide) ?_
    exact b1_34 X hx hZ hw hby hown hret x w hv hr
def v1_18 (x : Int32) : Int32 := (if (122 : Int32) < x then v1_24 x else v1_30 x)
set_option maxRecDepth 65536 in
set_option maxHeartbeats 40000000 in
theorem b1_18 {p : Program} {l : Launch} {e : Env} {R : Room} {s : State} {m : MethodId} {args : Array Value} {below : List Frame} {meth : Method} {c : Code} {T : State} {locs : List Loc} {cells slots : Nat} {Z : State} {a0 : Array Value} (X : Stand p l e R s m args below meth c T locs cells slots) (hx : p.tables.exec = Jvm.exec) (hZ : Z.Warmed39 s.vm) (hw : ∀ d ∈ tables_1, d.before a0 Z = true) (hby : c.code = prog_131_method_15_code) (hown : s.vm.findClass "com/example/spurion/spurion/model/Lexer" = some m.cls) (hret : meth.sig.returnType = some .boolean) (x w : Int32) (hv : v1_18 x = w) {fs : List Frame} (hr : ∀ (f : JFrame) (acts : List Action), f.method = m → f.locked = none → f.entered = [] → (doReturn e (T.setTop f) acts (some (.int w))).1 = T.setFrames fs) : Steps p.tables e below (T.setTop (mkF m 18 #[.val (.int x)] [])) (T.setFrames fs) := by
  change (if (122 : Int32) < x then v1_24 x else v1_30 x) = w at hv
  show Steps p.tables e below (T.setTop (mkF m 18 #[.val (.int x)] [])) _
  refine XS.iloadN X.here hx rfl (hb hby d1_18) rfl ?_
  show Steps p.tables e below (T.setTop (mkF m 19 #[.val (.int x)] [(.int x)])) _
  refine XS.bipush X.here hx rfl (hb hby d1_19) ?_
  show Steps p.tables e below (T.setTop (mkF m 21 #[.val (.int x)] [(.int (122 : Int32)), (.int x)])) _
  by_cases hc0 : (122 : Int32) < x
  · rw [if_pos hc0] at hv
    refine XS.icmpNo X.here hx rfl (hb hby d1_21) rfl (tlt hc0).2.2.2 ?_
    exact b1_24 X hx hZ hw hby hown hret x w hv hr
  · rw [if_neg hc0] at hv
    refine XS.icmpYes X.here hx rfl (pc0 := 21) (pc' := 30) rfl (hb hby d1_21) rfl (flt hc0).2.2.2 (by decide) (by decide) ?_
    exact b1_30 X hx hZ hw hby hown hret x w hv hr
def v1_12 (x : Int32) : Int32 := (if x < (97 : Int32) then v1_24 x else v1_18 x)
set_option maxRecDepth 65536 in
set_option maxHeartbeats 40000000 in
theorem b1_12 {p : Program} {l : Launch} {e : Env} {R : Room} {s : State} {m : MethodId} {args : Array Value} {below : List Frame} {meth : Method} {c : Code} {T : State} {locs : List Loc} {cells slots : Nat} {Z : State} {a0 : Array Value} (X : Stand p l e R s m args below meth c T locs cells slots) (hx : p.tables.exec = Jvm.exec) (hZ : Z.Warmed39 s.vm) (hw : ∀ d ∈ tables_1, d.before a0 Z = true) (hby : c.code = prog_131_method_15_code) (hown : s.vm.findClass "com/example/spurion/spurion/model/Lexer" = some m.cls) (hret : meth.sig.returnType = some .boolean) (x w : Int32) (hv : v1_12 x = w) {fs : List Frame} (hr : ∀ (f : JFrame) (acts : List Action), f.method = m → f.locked = none → f.entered = [] → (doReturn e (T.setTop f) acts (some (.int w))).1 = T.setFrames fs) : Steps p.tables e below (T.setTop (mkF m 12 #[.val (.int x)] [])) (T.setFrames fs) := by
  change (if x < (97 : Int32) then v1_24 x else v1_18 x) = w at hv
  show Steps p.tables e below (T.setTop (mkF m 12 #[.val (.int x)] [])) _
  refine XS.iloadN X.here hx rfl (hb hby d1_12) rfl ?_
  show Steps p.tables e below (T.setTop (mkF m 13 #[.val (.int x)] [(.int x)])) _
  refine XS.bipush X.here hx rfl (hb hby d1_13) ?_
  show Steps p.tables e below (T.setTop (mkF m 15 #[.val (.int x)] [(.int (97 : Int32)), (.int x)])) _
  by_cases hc0 : x < (97 : Int32)
  · rw [if_pos hc0] at hv
    refine XS.icmpYes X.here hx rfl (pc0 := 15) (pc' := 24) rfl (hb hby d1_15) rfl (tlt hc0).1 (by decide) (by decide) ?_
    exact b1_24 X hx hZ hw hby hown hret x w hv hr
  · rw [if_neg hc0] at hv
    refine XS.icmpNo X.here hx rfl (hb hby d1_15) rfl (flt hc0).1 ?_
    exact b1_18 X hx hZ hw hby hown hret x w hv hr
def v1_6 (x : Int32) : Int32 := (if (90 : Int32) < x then v1_12 x else v1_30 x)
set_option maxRecDepth 65536 in
set_option maxHeartbeats 40000000 in
theorem b1_6 {p : Program} {l : Launch} {e : Env} {R : Room} {s : State} {m : MethodId} {args : Array Value} {below : List Frame} {meth : Method} {c : Code} {T : State} {locs : List Loc} {cells slots : Nat} {Z : State} {a0 : Array Value} (X : Stand p l e R s m args below meth c T locs cells slots) (hx : p.tables.exec = Jvm.exec) (hZ : Z.Warmed39 s.vm) (hw : ∀ d ∈ tables_1, d.before a0 Z = true) (hby : c.code = prog_131_method_15_code) (hown : s.vm.findClass "com/example/spurion/spurion/model/Lexer" = some m.cls) (hret : meth.sig.returnType = some .boolean) (x w : Int32) (hv : v1_6 x = w) {fs : List Frame} (hr : ∀ (f : JFrame) (acts : List Action), f.method = m → f.locked = none → f.entered = [] → (doReturn e (T.setTop f) acts (some (.int w))).1 = T.setFrames fs) : Steps p.tables e below (T.setTop (mkF m 6 #[.val (.int x)] [])) (T.setFrames fs) := by
  change (if (90 : Int32) < x then v1_12 x else v1_30 x) = w at hv
  show Steps p.tables e below (T.setTop (mkF m 6 #[.val (.int x)] [])) _
  refine XS.iloadN X.here hx rfl (hb hby d1_6) rfl ?_
  show Steps p.tables e below (T.setTop (mkF m 7 #[.val (.int x)] [(.int x)])) _
  refine XS.bipush X.here hx rfl (hb hby d1_7) ?_
  show Steps p.tables e below (T.setTop (mkF m 9 #[.val (.int x)] [(.int (90 : Int32)), (.int x)])) _
  by_cases hc0 : (90 : Int32) < x
  · rw [if_pos hc0] at hv
    refine XS.icmpNo X.here hx rfl (hb hby d1_9) rfl (tlt hc0).2.2.2 ?_
    exact b1_12 X hx hZ hw hby hown hret x w hv hr
  · rw [if_neg hc0] at hv
    refine XS.icmpYes X.here hx rfl (pc0 := 9) (pc' := 30) rfl (hb hby d1_9) rfl (flt hc0).2.2.2 (by decide) (by decide) ?_
    exact b1_30 X hx hZ hw hby hown hret x w hv hr
def v1_0 (x : Int32) : Int32 := (if x < (65 : Int32) then v1_12 x else v1_6 x)
set_option maxRecDepth 65536 in
set_option maxHeartbeats 40000000 in
theorem b1_0 {p : Program} {l : Launch} {e : Env} {R : Room} {s : State} {m : MethodId} {args : Array Value} {below : List Frame} {meth : Method} {c : Code} {T : State} {locs : List Loc} {cells slots : Nat} {Z : State} {a0 : Array Value} (X : Stand p l e R s m args below meth c T locs cells slots) (hx : p.tables.exec = Jvm.exec) (hZ : Z.Warmed39 s.vm) (hw : ∀ d ∈ tables_1, d.before a0 Z = true) (hby : c.code = prog_131_method_15_code) (hown : s.vm.findClass "com/example/spurion/spurion/model/Lexer" = some m.cls) (hret : meth.sig.returnType = some .boolean) (x w : Int32) (hv : v1_0 x = w) {fs : List Frame} (hr : ∀ (f : JFrame) (acts : List Action), f.method = m → f.locked = none → f.entered = [] → (doReturn e (T.setTop f) acts (some (.int w))).1 = T.setFrames fs) : Steps p.tables e below (T.setTop (mkF m 0 #[.val (.int x)] [])) (T.setFrames fs) := by
  change (if x < (65 : Int32) then v1_12 x else v1_6 x) = w at hv
  show Steps p.tables e below (T.setTop (mkF m 0 #[.val (.int x)] [])) _
  refine XS.iloadN X.here hx rfl (hb hby d1_0) rfl ?_
  show Steps p.tables e below (T.setTop (mkF m 1 #[.val (.int x)] [(.int x)])) _
  refine XS.bipush X.here hx rfl (hb hby d1_1) ?_
  show Steps p.tables e below (T.setTop (mkF m 3 #[.val (.int x)] [(.int (65 : Int32)), (.int x)])) _
  by_cases hc0 : x < (65 : Int32)
  · rw [if_pos hc0] at hv
    refine XS.icmpYes X.here hx rfl (pc0 := 3) (pc' := 12) rfl (hb hby d1_3) rfl (tlt hc0).1 (by decide) (by decide) ?_
    exact b1_12 X hx hZ hw hby hown hret x w hv hr
  · rw [if_neg hc0] at hv
    refine XS.icmpNo X.here hx rfl (hb hby d1_3) rfl (flt hc0).1 ?_
    exact b1_6 X hx hZ hw hby hown hret x w hv hr
theorem pn_1 : plainName "com/example/spurion/spurion/model/Lexer" = true := by first | (simp [plainName, overriddenIn]; done) | decide +kernel
theorem ef_1 (m : MethodId) (x0 : Int32) : entryFrame m #[(.int x0)] 1 = mkF m 0 #[.val (.int x0)] [] := by first | (simp [entryFrame, mkF, argsToLocals, Value.category]; done) | rfl
def Q1 (Z : State) (p1 : Int32) (h0 : Heap) (n0 : Nat) (v : Option Value) (h : Heap) (L : List Loc) : Prop := v = some (.int (v1_0 p1)) ∧ Fr n0 L ∧ h = h0
set_option maxRecDepth 65536 in
set_option maxHeartbeats 40000000 in
theorem rm1 (l : Launch) (Z : State) (a0 : Array Value) (hw : ∀ d ∈ tables_1, d.before a0 Z = true) (ws : List Jvm.Cond) (p1 : Int32) (h0 : Heap) (n0 : Nat) :
    MetFree l (⟨"com/example/spurion/spurion/model/Lexer", "isNameStart", "(I)Z"⟩ : MethodName) (head1 (Jvm.Cond.code (⟨"com/example/spurion/spurion/model/Lexer", "isNameStart", "(I)Z"⟩ : MethodName) prog_131_method_15_code 1 (some .boolean) :: ws) ({ frames := 0, cells := 0, slots := 0, locals := 0 } : Room)) (fun a U => a = #[(.int p1)] ∧ Z.Warmed39 U.vm ∧ U.heap = h0) (fun _ _ _ _ _ => True) (fun _ U o U' => ∃ v L, o = .returned v ∧ Q1 Z p1 h0 n0 v U'.heap L ∧ FrameEnd U o U' L ({ frames := 0, cells := 0, slots := 0, locals := 0 } : Room).cells ({ frames := 0, cells := 0, slots := 0, locals := 0 } : Room).slots) := by
  refine MetFree.of_bodySF (plainFor_of_name pn_1) hisR ?_
  intro p e s m args below meth c s₁ Bd hml0 hP hK
  obtain ⟨rfl, hZ, hh⟩ := hP
  have hx := Bd.exec
  have hby := Bd.bytes
  have hown : s.vm.findClass "com/example/spurion/spurion/model/Lexer" = some m.cls := findClass_of_methodNamed Bd.named
  have X0 : Stand p l e ({ frames := 0, cells := 0, slots := 0, locals := 0 } : Room) s m #[(.int p1)] below meth c s₁ [] 0 0 := Stand.of_body Bd
  have e0 : s₁.heap = h0 := by rw [← hh, Bd.state]; rfl
  have N0 := Fr.nil n0
  have pre0 : ∀ t, Steps p.tables e below (s₁.setTop (mkF m 0 #[.val (.int p1)] [])) t → Steps p.tables e below (s₁.setTop (entryFrame m #[(.int p1)] 1)) t := fun t k => castTop (ef_1 m p1) k
  obtain ⟨fs, hr, hrun, hended, hW, hsame⟩ := X0.leave (v := some (.int (v1_0 p1))) (fun h => by rw [Bd.returns] at h; cases h)
  refine ⟨_, _, pre0 _ ?_, hrun, hended, _, _, rfl, ?_, ⟨_, rfl⟩, hW, hsame.mono (by decide) (by decide)⟩
  · exact b1_0 X0 hx hZ hw hby hown Bd.returns p1 _ rfl hr
  · show Q1 Z p1 h0 n0 _ s₁.heap _
    rw [e0]
    exact ⟨rfl, N0, rfl⟩
theorem r1_0 (x : Int32) : v1_0 x = (if (x < (65 : Int32)) ∨ ((90 : Int32) < x) then v1_12 x else v1_30 x) := by
  unfold v1_0 v1_6
  by_cases h1 : x < (65 : Int32) <;> by_cases h2 : (90 : Int32) < x <;> simp [h1, h2]
theorem r1_30 (x : Int32) : v1_30 x = (1 : Int32) := rfl
theorem r1_12 (x : Int32) : v1_12 x = (if (x < (97 : Int32)) ∨ ((122 : Int32) < x) then v1_24 x else v1_30 x) := by
  unfold v1_12 v1_18
  by_cases h1 : x < (97 : Int32) <;> by_cases h2 : (122 : Int32) < x <;> simp [h1, h2]
theorem r1_24 (x : Int32) : v1_24 x = (if x = (95 : Int32) then v1_30 x else v1_34 x) := rfl
theorem r1_34 (x : Int32) : v1_34 x = (0 : Int32) := rfl
theorem d2_0 : decode method_2_code 0 = .ok (.iload_n 0, 1) := by decide +kernel
theorem d2_1 : decode method_2_code 1 = .ok (.bipush 32, 2) := by decide +kernel
theorem d2_3 : decode method_2_code 3 = .ok (.ior, 1) := by decide +kernel
theorem d2_4 : decode method_2_code 4 = .ok (.istore_n 1, 1) := by decide +kernel
theorem d2_5 : decode method_2_code 5 = .ok (.iload_n 1, 1) := by decide +kernel
theorem d2_6 : decode method_2_code 6 = .ok (.bipush 97, 2) := by decide +kernel
theorem d2_8 : decode method_2_code 8 = .ok (.if_icmp .lt 13, 3) := by decide +kernel
theorem d2_11 : decode method_2_code 11 = .ok (.iload_n 1, 1) := by decide +kernel
theorem d2_12 : decode method_2_code 12 = .ok (.bipush 122, 2) := by decide +kernel
theorem d2_14 : decode method_2_code 14 = .ok (.if_icmp .gt 7, 3) := by decide +kernel
theorem d2_17 : decode method_2_code 17 = .ok (.iconst 1, 1) := by decide +kernel
theorem d2_18 : decode method_2_code 18 = .ok (.goto 4, 3) := by decide +kernel
theorem d2_21 : decode method_2_code 21 = .ok (.iconst 0, 1) := by decide +kernel
theorem d2_22 : decode method_2_code 22 = .ok (.istore_n 2, 1) := by decide +kernel
theorem d2_23 : decode method_2_code 23 = .ok (.iload_n 0, 1) := by decide +kernel
theorem d2_24 : decode method_2_code 24 = .ok (.bipush 95, 2) := by decide +kernel
theorem d2_26 : decode method_2_code 26 = .ok (.if_icmp .ne 7, 3) := by decide +kernel
theorem d2_29 : decode method_2_code 29 = .ok (.iconst 1, 1) := by decide +kernel
theorem d2_30 : decode method_2_code 30 = .ok (.goto 4, 3) := by decide +kernel
theorem d2_33 : decode method_2_code 33 = .ok (.iconst 0, 1) := by decide +kernel
theorem d2_34 : decode method_2_code 34 = .ok (.istore_n 3, 1) := by decide +kernel
theorem d2_35 : decode method_2_code 35 = .ok (.iload_n 2, 1) := by decide +kernel
theorem d2_36 : decode method_2_code 36 = .ok (.ifCond .ne 7, 3) := by decide +kernel
theorem d2_39 : decode method_2_code 39 = .ok (.iload_n 3, 1) := by decide +kernel
theorem d2_40 : decode method_2_code 40 = .ok (.ifCond .eq 7, 3) := by decide +kernel
theorem d2_43 : decode method_2_code 43 = .ok (.iconst 1, 1) := by decide +kernel
theorem d2_44 : decode method_2_code 44 = .ok (.goto 4, 3) := by decide +kernel
theorem d2_47 : decode method_2_code 47 = .ok (.iconst 0, 1) := by decide +kernel
theorem d2_48 : decode method_2_code 48 = .ok (.ireturn, 1) := by decide +kernel
def v2_0 (x : Int32) : Int32 := (if (x ||| (32 : Int32)) < (97 : Int32) then (if x = (95 : Int32) then (if (0 : Int32) = (0 : Int32) then (if (1 : Int32) = (0 : Int32) then (0 : Int32) else (1 : Int32)) else (1 : Int32)) else (if (0 : Int32) = (0 : Int32) then (if (0 : Int32) = (0 : Int32) then (0 : Int32) else (1 : Int32)) else (1 : Int32))) else (if (122 : Int32) < (x ||| (32 : Int32)) then (if x = (95 : Int32) then (if (0 : Int32) = (0 : Int32) then (if (1 : Int32) = (0 : Int32) then (0 : Int32) else (1 : Int32)) else (1 : Int32)) else (if (0 : Int32) = (0 : Int32) then (if (0 : Int32) = (0 : Int32) then (0 : Int32) else (1 : Int32)) else (1 : Int32))) else (if x = (95 : Int32) then (if (1 : Int32) = (0 : Int32) then (if (1 : Int32) = (0 : Int32) then (0 : Int32) else (1 : Int32)) else (1 : Int32)) else (if (1 : Int32) = (0 : Int32) then (if (0 : Int32) = (0 : Int32) then (0 : Int32) else (1 : Int32)) else (1 : Int32)))))
set_option maxRecDepth 65536 in
set_option maxHeartbeats 40000000 in
theorem b2_0 {p : Program} {l : Launch} {e : Env} {R : Room} {s : State} {m : MethodId} {args : Array Value} {below : List Frame} {meth : Method} {c : Code} {T : State} {locs : List Loc} {cells slots : Nat} {Z : State} {a0 : Array Value} (X : Stand p l e R s m args below meth c T locs cells slots) (hx : p.tables.exec = Jvm.exec) (hZ : Z.Warmed39 s.vm) (hw : ∀ d ∈ tables_1, d.before a0 Z = true) (hby : c.code = method_2_code) (hown : s.vm.findClass "com/example/spurion/spurion/model/LexerIsNameStartPinLaw" = some m.cls) (hret : meth.sig.returnType = some .boolean) (x w : Int32) (hv : v2_0 x = w) {fs : List Frame} (hr : ∀ (f : JFrame) (acts : List Action), f.method = m → f.locked = none → f.entered = [] → (doReturn e (T.setTop f) acts (some (.int w))).1 = T.setFrames fs) : Steps p.tables e below (T.setTop (mkF m 0 #[.val (.int x), .unset, .unset, .unset] [])) (T.setFrames fs) := by
  change (if (x ||| (32 : Int32)) < (97 : Int32) then (if x = (95 : Int32) then (if (0 : Int32) = (0 : Int32) then (if (1 : Int32) = (0 : Int32) then (0 : Int32) else (1 : Int32)) else (1 : Int32)) else (if (0 : Int32) = (0 : Int32) then (if (0 : Int32) = (0 : Int32) then (0 : Int32) else (1 : Int32)) else (1 : Int32))) else (if (122 : Int32) < (x ||| (32 : Int32)) then (if x = (95 : Int32) then (if (0 : Int32) = (0 : Int32) then (if (1 : Int32) = (0 : Int32) then (0 : Int32) else (1 : Int32)) else (1 : Int32)) else (if (0 : Int32) = (0 : Int32) then (if (0 : Int32) = (0 : Int32) then (0 : Int32) else (1 : Int32)) else (1 : Int32))) else (if x = (95 : Int32) then (if (1 : Int32) = (0 : Int32) then (if (1 : Int32) = (0 : Int32) then (0 : Int32) else (1 : Int32)) else (1 : Int32)) else (if (1 : Int32) = (0 : Int32) then (if (0 : Int32) = (0 : Int32) then (0 : Int32) else (1 : Int32)) else (1 : Int32))))) = w at hv
  show Steps p.tables e below (T.setTop (mkF m 0 #[.val (.int x), .unset, .unset, .unset] [])) _
  refine XS.iloadN X.here hx rfl (hb hby d2_0) rfl ?_
  show Steps p.tables e below (T.setTop (mkF m 1 #[.val (.int x), .unset, .unset, .unset] [(.int x)])) _
  refine XS.bipush X.here hx rfl (hb hby d2_1) ?_
  show Steps p.tables e below (T.setTop (mkF m 3 #[.val (.int x), .unset, .unset, .unset] [(.int (32 : Int32)), (.int x)])) _
  refine XT.ior X.here hx rfl (hb hby d2_3) rfl ?_
  show Steps p.tables e below (T.setTop (mkF m 4 #[.val (.int x), .unset, .unset, .unset] [(.int (x ||| (32 : Int32)))])) _
  refine XS.istoreN X.here hx rfl (hb hby d2_4) rfl (l' := #[.val (.int x), .val (.int (x ||| (32 : Int32))), .unset, .unset]) rfl ?_
  show Steps p.tables e below (T.setTop (mkF m 5 #[.val (.int x), .val (.int (x ||| (32 : Int32))), .unset, .unset] [])) _
  refine XS.iloadN X.here hx rfl (hb hby d2_5) rfl ?_
  show Steps p.tables e below (T.setTop (mkF m 6 #[.val (.int x), .val (.int (x ||| (32 : Int32))), .unset, .unset] [(.int (x ||| (32 : Int32)))])) _
  refine XS.bipush X.here hx rfl (hb hby d2_6) ?_
  show Steps p.tables e below (T.setTop (mkF m 8 #[.val (.int x), .val (.int (x ||| (32 : Int32))), .unset, .unset] [(.int (97 : Int32)), (.int (x ||| (32 : Int32)))])) _
  by_cases hc0 : (x ||| (32 : Int32)) < (97 : Int32)
  · rw [if_pos hc0] at hv
    refine XS.icmpYes X.here hx rfl (pc0 := 8) (pc' := 21) rfl (hb hby d2_8) rfl (tlt hc0).1 (by decide) (by decide) ?_
    show Steps p.tables e below (T.setTop (mkF m 21 #[.val (.int x), .val (.int (x ||| (32 : Int32))), .unset, .unset] [])) _
    refine XS.iconst X.here hx rfl (hb hby d2_21) ?_
    show Steps p.tables e below (T.setTop (mkF m 22 #[.val (.int x), .val (.int (x ||| (32 : Int32))), .unset, .unset] [(.int (0 : Int32))])) _
    refine XS.istoreN X.here hx rfl (hb hby d2_22) rfl (l' := #[.val (.int x), .val (.int (x ||| (32 : Int32))), .val (.int (0 : Int32)), .unset]) rfl ?_
    show Steps p.tables e below (T.setTop (mkF m 23 #[.val (.int x), .val (.int (x ||| (32 : Int32))), .val (.int (0 : Int32)), .unset] [])) _
    refine XS.iloadN X.here hx rfl (hb hby d2_23) rfl ?_
    show Steps p.tables e below (T.setTop (mkF m 24 #[.val (.int x), .val (.int (x ||| (32 : Int32))), .val (.int (0 : Int32)), .unset] [(.int x)])) _
    refine XS.bipush X.here hx rfl (hb hby d2_24) ?_
    show Steps p.tables e below (T.setTop (mkF m 26 #[.val (.int x), .val (.int (x ||| (32 : Int32))), .val (.int (0 : Int32)), .unset] [(.int (95 : Int32)), (.int x)])) _
    by_cases hc1 : x = (95 : Int32)
    · rw [if_pos hc1] at hv
      refine XS.icmpNo X.here hx rfl (hb hby d2_26) rfl (teq hc1).2 ?_
      show Steps p.tables e below (T.setTop (mkF m 29 #[.val (.int x), .val (.int (x ||| (32 : Int32))), .val (.int (0 : Int32)), .unset] [])) _
      refine XS.iconst X.here hx rfl (hb hby d2_29) ?_
      show Steps p.tables e below (T.setTop (mkF m 30 #[.val (.int x), .val (.int (x ||| (32 : Int32))), .val (.int (0 : Int32)), .unset] [(.int (1 : Int32))])) _
      refine XS.goto X.here hx rfl (pc0 := 30) (pc' := 34) rfl (hb hby d2_30) (by decide) (by decide) ?_
      show Steps p.tables e below (T.setTop (mkF m 34 #[.val (.int x), .val (.int (x ||| (32 : Int32))), .val (.int (0 : Int32)), .unset] [(.int (1 : Int32))])) _
      refine XS.istoreN X.here hx rfl (hb hby d2_34) rfl (l' := #[.val (.int x), .val (.int (x ||| (32 : Int32))), .val (.int (0 : Int32)), .val (.int (1 : Int32))]) rfl ?_
      show Steps p.tables e below (T.setTop (mkF m 35 #[.val (.int x), .val (.int (x ||| (32 : Int32))), .val (.int (0 : Int32)), .val (.int (1 : Int32))] [])) _
      refine XS.iloadN X.here hx rfl (hb hby d2_35) rfl ?_
      show Steps p.tables e below (T.setTop (mkF m 36 #[.val (.int x), .val (.int (x ||| (32 : Int32))), .val (.int (0 : Int32)), .val (.int (1 : Int32))] [(.int (0 : Int32))])) _
      by_cases hc2 : (0 : Int32) = (0 : Int32)
      · rw [if_pos hc2] at hv
        refine XS.ifNo X.here hx rfl (hb hby d2_36) rfl ((if0 _ _).trans (teq hc2).2) ?_
        show Steps p.tables e below (T.setTop (mkF m 39 #[.val (.int x), .val (.int (x ||| (32 : Int32))), .val (.int (0 : Int32)), .val (.int (1 : Int32))] [])) _
        refine XS.iloadN X.here hx rfl (hb hby d2_39) rfl ?_
        show Steps p.tables e below (T.setTop (mkF m 40 #[.val (.int x), .val (.int (x ||| (32 : Int32))), .val (.int (0 : Int32)), .val (.int (1 : Int32))] [(.int (1 : Int32))])) _
        by_cases hc3 : (1 : Int32) = (0 : Int32)
        · rw [if_pos hc3] at hv
          refine XS.ifYes X.here hx rfl (pc0 := 40) (pc' := 47) rfl (hb hby d2_40) rfl ((if0 _ _).trans (teq hc3).1) (by decide) (by decide) ?_
          show Steps p.tables e below (T.setTop (mkF m 47 #[.val (.int x), .val (.int (x ||| (32 : Int32))), .val (.int (0 : Int32)), .val (.int (1 : Int32))] [])) _
          refine XS.iconst X.here hx rfl (hb hby d2_47) ?_
          show Steps p.tables e below (T.setTop (mkF m 48 #[.val (.int x), .val (.int (x ||| (32 : Int32))), .val (.int (0 : Int32)), .val (.int (1 : Int32))] [(.int (0 : Int32))])) _
          subst hv
          exact retN X hx (t := .boolean) hret (by simp) (hb hby d2_48) hr
        · rw [if_neg hc3] at hv
          refine XS.ifNo X.here hx rfl (hb hby d2_40) rfl ((if0 _ _).trans (feq hc3).1) ?_
          show Steps p.tables e below (T.setTop (mkF m 43 #[.val (.int x), .val (.int (x ||| (32 : Int32))), .val (.int (0 : Int32)), .val (.int (1 : Int32))] [])) _
          refine XS.iconst X.here hx rfl (hb hby d2_43) ?_
          show Steps p.tables e below (T.setTop (mkF m 44 #[.val (.int x), .val (.int (x ||| (32 : Int32))), .val (.int (0 : Int32)), .val (.int (1 : Int32))] [(.int (1 : Int32))])) _
          refine XS.goto X.here hx rfl (pc0 := 44) (pc' := 48) rfl (hb hby d2_44) (by decide) (by decide) ?_
          show Steps p.tables e below (T.setTop (mkF m 48 #[.val (.int x), .val (.int (x ||| (32 : Int32))), .val (.int (0 : Int32)), .val (.int (1 : Int32))] [(.int (1 : Int32))])) _
          subst hv
          exact retN X hx (t := .boolean) hret (by simp) (hb hby d2_48) hr
      · rw [if_neg hc2] at hv
        refine XS.ifYes X.here hx rfl (pc0 := 36) (pc' := 43) rfl (hb hby d2_36) rfl ((if0 _ _).trans (feq hc2).2) (by decide) (by decide) ?_
        show Steps p.tables e below (T.setTop (mkF m 43 #[.val (.int x), .val (.int (x ||| (32 : Int32))), .val (.int (0 : Int32)), .val (.int (1 : Int32))] [])) _
        refine XS.iconst X.here hx rfl (hb hby d2_43) ?_
        show Steps p.tables e below (T.setTop (mkF m 44 #[.val (.int x), .val (.int (x ||| (32 : Int32))), .val (.int (0 : Int32)), .val (.int (1 : Int32))] [(.int (1 : Int32))])) _
        refine XS.goto X.here hx rfl (pc0 := 44) (pc' := 48) rfl (hb hby d2_44) (by decide) (by decide) ?_
        show Steps p.tables e below (T.setTop (mkF m 48 #[.val (.int x), .val (.int (x ||| (32 : Int32))), .val (.int (0 : Int32)), .val (.int (1 : Int32))] [(.int (1 : Int32))])) _
        subst hv
        exact retN X hx (t := .boolean) hret (by simp) (hb hby d2_48) hr
    · rw [if_neg hc1] at hv
      refine XS.icmpYes X.here hx rfl (pc0 := 26) (pc' := 33) rfl (hb hby d2_26) rfl (feq hc1).2 (by decide) (by decide) ?_
      show Steps p.tables e below (T.setTop (mkF m 33 #[.val (.int x), .val (.int (x ||| (32 : Int32))), .val (.int (0 : Int32)), .unset] [])) _
      refine XS.iconst X.here hx rfl (hb hby d2_33) ?_
      show Steps p.tables e below (T.setTop (mkF m 34 #[.val (.int x), .val (.int (x ||| (32 : Int32))), .val (.int (0 : Int32)), .unset] [(.int (0 : Int32))])) _
      refine XS.istoreN X.here hx rfl (hb hby d2_34) rfl (l' := #[.val (.int x), .val (.int (x ||| (32 : Int32))), .val (.int (0 : Int32)), .val (.int (0 : Int32))]) rfl ?_
      show Steps p.tables e below (T.setTop (mkF m 35 #[.val (.int x), .val (.int (x ||| (32 : Int32))), .val (.int (0 : Int32)), .val (.int (0 : Int32))] [])) _
      refine XS.iloadN X.here hx rfl (hb hby d2_35) rfl ?_
      show Steps p.tables e below (T.setTop (mkF m 36 #[.val (.int x), .val (.int (x ||| (32 : Int32))), .val (.int (0 : Int32)), .val (.int (0 : Int32))] [(.int (0 : Int32))])) _
      by_cases hc2 : (0 : Int32) = (0 : Int32)
      · rw [if_pos hc2] at hv
        refine XS.ifNo X.here hx rfl (hb hby d2_36) rfl ((if0 _ _).trans (teq hc2).2) ?_
        show Steps p.tables e below (T.setTop (mkF m 39 #[.val (.int x), .val (.int (x ||| (32 : Int32))), .val (.int (0 : Int32)), .val (.int (0 : Int32))] [])) _
        refine XS.iloadN X.here hx rfl (hb hby d2_39) rfl ?_
        show Steps p.tables e below (T.setTop (mkF m 40 #[.val (.int x), .val (.int (x ||| (32 : Int32))), .val (.int (0 : Int32)), .val (.int (0 : Int32))] [(.int (0 : Int32))])) _
        by_cases hc3 : (0 : Int32) = (0 : Int32)
        · rw [if_pos hc3] at hv
          refine XS.ifYes X.here hx rfl (pc0 := 40) (pc' := 47) rfl (hb hby d2_40) rfl ((if0 _ _).trans (teq hc3).1) (by decide) (by decide) ?_
          show Steps p.tables e below (T.setTop (mkF m 47 #[.val (.int x), .val (.int (x ||| (32 : Int32))), .val (.int (0 : Int32)), .val (.int (0 : Int32))] [])) _
          refine XS.iconst X.here hx rfl (hb hby d2_47) ?_
          show Steps p.tables e below (T.setTop (mkF m 48 #[.val (.int x), .val (.int (x ||| (32 : Int32))), .val (.int (0 : Int32)), .val (.int (0 : Int32))] [(.int (0 : Int32))])) _
          subst hv
          exact retN X hx (t := .boolean) hret (by simp) (hb hby d2_48) hr
        · rw [if_neg hc3] at hv
          refine XS.ifNo X.here hx rfl (hb hby d2_40) rfl ((if0 _ _).trans (feq hc3).1) ?_
          show Steps p.tables e below (T.setTop (mkF m 43 #[.val (.int x), .val (.int (x ||| (32 : Int32))), .val (.int (0 : Int32)), .val (.int (0 : Int32))] [])) _
          refine XS.iconst X.here hx rfl (hb hby d2_43) ?_
          show Steps p.tables e below (T.setTop (mkF m 44 #[.val (.int x), .val (.int (x ||| (32 : Int32))), .val (.int (0 : Int32)), .val (.int (0 : Int32))] [(.int (1 : Int32))])) _
          refine XS.goto X.here hx rfl (pc0 := 44) (pc' := 48) rfl (hb hby d2_44) (by decide) (by decide) ?_
          show Steps p.tables e below (T.setTop (mkF m 48 #[.val (.int x), .val (.int (x ||| (32 : Int32))), .val (.int (0 : Int32)), .val (.int (0 : Int32))] [(.int (1 : Int32))])) _
          subst hv
          exact retN X hx (t := .boolean) hret (by simp) (hb hby d2_48) hr
      · rw [if_neg hc2] at hv
        refine XS.ifYes X.here hx rfl (pc0 := 36) (pc' := 43) rfl (hb hby d2_36) rfl ((if0 _ _).trans (feq hc2).2) (by decide) (by decide) ?_
        show Steps p.tables e below (T.setTop (mkF m 43 #[.val (.int x), .val (.int (x ||| (32 : Int32))), .val (.int (0 : Int32)), .val (.int (0 : Int32))] [])) _
        refine XS.iconst X.here hx rfl (hb hby d2_43) ?_
        show Steps p.tables e below (T.setTop (mkF m 44 #[.val (.int x), .val (.int (x ||| (32 : Int32))), .val (.int (0 : Int32)), .val (.int (0 : Int32))] [(.int (1 : Int32))])) _
        refine XS.goto X.here hx rfl (pc0 := 44) (pc' := 48) rfl (hb hby d2_44) (by decide) (by decide) ?_
        show Steps p.tables e below (T.setTop (mkF m 48 #[.val (.int x), .val (.int (x ||| (32 : Int32))), .val (.int (0 : Int32)), .val (.int (0 : Int32))] [(.int (1 : Int32))])) _
        subst hv
        exact retN X hx (t := .boolean) hret (by simp) (hb hby d2_48) hr
  · rw [if_neg hc0] at hv
    refine XS.icmpNo X.here hx rfl (hb hby d2_8) rfl (flt hc0).1 ?_
    show Steps p.tables e below (T.setTop (mkF m 11 #[.val (.int x), .val (.int (x ||| (32 : Int32))), .unset, .unset] [])) _
    refine XS.iloadN X.here hx rfl (hb hby d2_11) rfl ?_
    show Steps p.tables e below (T.setTop (mkF m 12 #[.val (.int x), .val (.int (x ||| (32 : Int32))), .unset, .unset] [(.int (x ||| (32 : Int32)))])) _
    refine XS.bipush X.here hx rfl (hb hby d2_12) ?_
    show Steps p.tables e below (T.setTop (mkF m 14 #[.val (.int x), .val (.int (x ||| (32 : Int32))), .unset, .unset] [(.int (122 : Int32)), (.int (x ||| (32 : Int32)))])) _
    by_cases hc1 : (122 : Int32) < (x ||| (32 : Int32))
    · rw [if_pos hc1] at hv
      refine XS.icmpYes X.here hx rfl (pc0 := 14) (pc' := 21) rfl (hb hby d2_14) rfl (tlt hc1).2.2.1 (by decide) (by decide) ?_
      show Steps p.tables e below (T.setTop (mkF m 21 #[.val (.int x), .val (.int (x ||| (32 : Int32))), .unset, .unset] [])) _
      refine XS.iconst X.here hx rfl (hb hby d2_21) ?_
      show Steps p.tables e below (T.setTop (mkF m 22 #[.val (.int x), .val (.int (x ||| (32 : Int32))), .unset, .unset] [(.int (0 : Int32))])) _
      refine XS.istoreN X.here hx rfl (hb hby d2_22) rfl (l' := #[.val (.int x), .val (.int (x ||| (32 : Int32))), .val (.int (0 : Int32)), .unset]) rfl ?_
      show Steps p.tables e below (T.setTop (mkF m 23 #[.val (.int x), .val (.int (x ||| (32 : Int32))), .val (.int (0 : Int32)), .unset] [])) _
      refine XS.iloadN X.here hx rfl (hb hby d2_23) rfl ?_
      show Steps p.tables e below (T.setTop (mkF m 24 #[.val (.int x), .val (.int (x ||| (32 : Int32))), .val (.int (0 : Int32)), .unset] [(.int x)])) _
      refine XS.bipush X.here hx rfl (hb hby d2_24) ?_
      show Steps p.tables e below (T.setTop (mkF m 26 #[.val (.int x), .val (.int (x ||| (32 : Int32))), .val (.int (0 : Int32)), .unset] [(.int (95 : Int32)), (.int x)])) _
      by_cases hc2 : x = (95 : Int32)
      · rw [if_pos hc2] at hv
        refine XS.icmpNo X.here hx rfl (hb hby d2_26) rfl (teq hc2).2 ?_
        show Steps p.tables e below (T.setTop (mkF m 29 #[.val (.int x), .val (.int (x ||| (32 : Int32))), .val (.int (0 : Int32)), .unset] [])) _
        refine XS.iconst X.here hx rfl (hb hby d2_29) ?_
        show Steps p.tables e below (T.setTop (mkF m 30 #[.val (.int x), .val (.int (x ||| (32 : Int32))), .val (.int (0 : Int32)), .unset] [(.int (1 : Int32))])) _
        refine XS.goto X.here hx rfl (pc0 := 30) (pc' := 34) rfl (hb hby d2_30) (by decide) (by decide) ?_
        show Steps p.tables e below (T.setTop (mkF m 34 #[.val (.int x), .val (.int (x ||| (32 : Int32))), .val (.int (0 : Int32)), .unset] [(.int (1 : Int32))])) _
        refine XS.istoreN X.here hx rfl (hb hby d2_34) rfl (l' := #[.val (.int x), .val (.int (x ||| (32 : Int32))), .val (.int (0 : Int32)), .val (.int (1 : Int32))]) rfl ?_
        show Steps p.tables e below (T.setTop (mkF m 35 #[.val (.int x), .val (.int (x ||| (32 : Int32))), .val (.int (0 : Int32)), .val (.int (1 : Int32))] [])) _
        refine XS.iloadN X.here hx rfl (hb hby d2_35) rfl ?_
        show Steps p.tables e below (T.setTop (mkF m 36 #[.val (.int x), .val (.int (x ||| (32 : Int32))), .val (.int (0 : Int32)), .val (.int (1 : Int32))] [(.int (0 : Int32))])) _
        by_cases hc3 : (0 : Int32) = (0 : Int32)
        · rw [if_pos hc3] at hv
          refine XS.ifNo X.here hx rfl (hb hby d2_36) rfl ((if0 _ _).trans (teq hc3).2) ?_
          show Steps p.tables e below (T.setTop (mkF m 39 #[.val (.int x), .val (.int (x ||| (32 : Int32))), .val (.int (0 : Int32)), .val (.int (1 : Int32))] [])) _
          refine XS.iloadN X.here hx rfl (hb hby d2_39) rfl ?_
          show Steps p.tables e below (T.setTop (mkF m 40 #[.val (.int x), .val (.int (x ||| (32 : Int32))), .val (.int (0 : Int32)), .val (.int (1 : Int32))] [(.int (1 : Int32))])) _
          by_cases hc4 : (1 : Int32) = (0 : Int32)
          · rw [if_pos hc4] at hv
            refine XS.ifYes X.here hx rfl (pc0 := 40) (pc' := 47) rfl (hb hby d2_40) rfl ((if0 _ _).trans (teq hc4).1) (by decide) (by decide) ?_
            show Steps p.tables e below (T.setTop (mkF m 47 #[.val (.int x), .val (.int (x ||| (32 : Int32))), .val (.int (0 : Int32)), .val (.int (1 : Int32))] [])) _
            refine XS.iconst X.here hx rfl (hb hby d2_47) ?_
            show Steps p.tables e below (T.setTop (mkF m 48 #[.val (.int x), .val (.int (x ||| (32 : Int32))), .val (.int (0 : Int32)), .val (.int (1 : Int32))] [(.int (0 : Int32))])) _
            subst hv
            exact retN X hx (t := .boolean) hret (by simp) (hb hby d2_48) hr
          · rw [if_neg hc4] at hv
            refine XS.ifNo X.here hx rfl (hb hby d2_40) rfl ((if0 _ _).trans (feq hc4).1) ?_
            show Steps p.tables e below (T.setTop (mkF m 43 #[.val (.int x), .val (.int (x ||| (32 : Int32))), .val (.int (0 : Int32)), .val (.int (1 : Int32))] [])) _
            refine XS.iconst X.here hx rfl (hb hby d2_43) ?_
            show Steps p.tables e below (T.setTop (mkF m 44 #[.val (.int x), .val (.int (x ||| (32 : Int32))), .val (.int (0 : Int32)), .val (.int (1 : Int32))] [(.int (1 : Int32))])) _
            refine XS.goto X.here hx rfl (pc0 := 44) (pc' := 48) rfl (hb hby d2_44) (by decide) (by decide) ?_
            show Steps p.tables e below (T.setTop (mkF m 48 #[.val (.int x), .val (.int (x ||| (32 : Int32))), .val (.int (0 : Int32)), .val (.int (1 : Int32))] [(.int (1 : Int32))])) _
            subst hv
            exact retN X hx (t := .boolean) hret (by simp) (hb hby d2_48) hr
        · rw [if_neg hc3] at hv
          refine XS.ifYes X.here hx rfl (pc0 := 36) (pc' := 43) rfl (hb hby d2_36) rfl ((if0 _ _).trans (feq hc3).2) (by decide) (by decide) ?_
          show Steps p.tables e below (T.setTop (mkF m 43 #[.val (.int x), .val (.int (x ||| (32 : Int32))), .val (.int (0 : Int32)), .val (.int (1 : Int32))] [])) _
          refine XS.iconst X.here hx rfl (hb hby d2_43) ?_
          show Steps p.tables e below (T.setTop (mkF m 44 #[.val (.int x), .val (.int (x ||| (32 : Int32))), .val (.int (0 : Int32)), .val (.int (1 : Int32))] [(.int (1 : Int32))])) _
          refine XS.goto X.here hx rfl (pc0 := 44) (pc' := 48) rfl (hb hby d2_44) (by decide) (by decide) ?_
          show Steps p.tables e below (T.setTop (mkF m 48 #[.val (.int x), .val (.int (x ||| (32 : Int32))), .val (.int (0 : Int32)), .val (.int (1 : Int32))] [(.int (1 : Int32))])) _
          subst hv
          exact retN X hx (t := .boolean) hret (by simp) (hb hby d2_48) hr
      · rw [if_neg hc2] at hv
        refine XS.icmpYes X.here hx rfl (pc0 := 26) (pc' := 33) rfl (hb hby d2_26) rfl (feq hc2).2 (by decide) (by decide) ?_
        show Steps p.tables e below (T.setTop (mkF m 33 #[.val (.int x), .val (.int (x ||| (32 : Int32))), .val (.int (0 : Int32)), .unset] [])) _
        refine XS.iconst X.here hx rfl (hb hby d2_33) ?_
        show Steps p.tables e below (T.setTop (mkF m 34 #[.val (.int x), .val (.int (x ||| (32 : Int32))), .val (.int (0 : Int32)), .unset] [(.int (0 : Int32))])) _
        refine XS.istoreN X.here hx rfl (hb hby d2_34) rfl (l' := #[.val (.int x), .val (.int (x ||| (32 : Int32))), .val (.int (0 : Int32)), .val (.int (0 : Int32))]) rfl ?_
        show Steps p.tables e below (T.setTop (mkF m 35 #[.val (.int x), .val (.int (x ||| (32 : Int32))), .val (.int (0 : Int32)), .val (.int (0 : Int32))] [])) _
        refine XS.iloadN X.here hx rfl (hb hby d2_35) rfl ?_
        show Steps p.tables e below (T.setTop (mkF m 36 #[.val (.int x), .val (.int (x ||| (32 : Int32))), .val (.int (0 : Int32)), .val (.int (0 : Int32))] [(.int (0 : Int32))])) _
        by_cases hc3 : (0 : Int32) = (0 : Int32)
        · rw [if_pos hc3] at hv
          refine XS.ifNo X.here hx rfl (hb hby d2_36) rfl ((if0 _ _).trans (teq hc3).2) ?_
          show Steps p.tables e below (T.setTop (mkF m 39 #[.val (.int x), .val (.int (x ||| (32 : Int32))), .val (.int (0 : Int32)), .val (.int (0 : Int32))] [])) _
          refine XS.iloadN X.here hx rfl (hb hby d2_39) rfl ?_
          show Steps p.tables e below (T.setTop (mkF m 40 #[.val (.int x), .val (.int (x ||| (32 : Int32))), .val (.int (0 : Int32)), .val (.int (0 : Int32))] [(.int (0 : Int32))])) _
          by_cases hc4 : (0 : Int32) = (0 : Int32)
          · rw [if_pos hc4] at hv
            refine XS.ifYes X.here hx rfl (pc0 := 40) (pc' := 47) rfl (hb hby d2_40) rfl ((if0 _ _).trans (teq hc4).1) (by decide) (by decide) ?_
            show Steps p.tables e below (T.setTop (mkF m 47 #[.val (.int x), .val (.int (x ||| (32 : Int32))), .val (.int (0 : Int32)), .val (.int (0 : Int32))] [])) _
            refine XS.iconst X.here hx rfl (hb hby d2_47) ?_
            show Steps p.tables e below (T.setTop (mkF m 48 #[.val (.int x), .val (.int (x ||| (32 : Int32))), .val (.int (0 : Int32)), .val (.int (0 : Int32))] [(.int (0 : Int32))])) _
            subst hv
            exact retN X hx (t := .boolean) hret (by simp) (hb hby d2_48) hr
          · rw [if_neg hc4] at hv
            refine XS.ifNo X.here hx rfl (hb hby d2_40) rfl ((if0 _ _).trans (feq hc4).1) ?_
            show Steps p.tables e below (T.setTop (mkF m 43 #[.val (.int x), .val (.int (x ||| (32 : Int32))), .val (.int (0 : Int32)), .val (.int (0 : Int32))] [])) _
            refine XS.iconst X.here hx rfl (hb hby d2_43) ?_
            show Steps p.tables e below (T.setTop (mkF m 44 #[.val (.int x), .val (.int (x ||| (32 : Int32))), .val (.int (0 : Int32)), .val (.int (0 : Int32))] [(.int (1 : Int32))])) _
            refine XS.goto X.here hx rfl (pc0 := 44) (pc' := 48) rfl (hb hby d2_44) (by decide) (by decide) ?_
            show Steps p.tables e below (T.setTop (mkF m 48 #[.val (.int x), .val (.int (x ||| (32 : Int32))), .val (.int (0 : Int32)), .val (.int (0 : Int32))] [(.int (1 : Int32))])) _
            subst hv
            exact retN X hx (t := .boolean) hret (by simp) (hb hby d2_48) hr
        · rw [if_neg hc3] at hv
          refine XS.ifYes X.here hx rfl (pc0 := 36) (pc' := 43) rfl (hb hby d2_36) rfl ((if0 _ _).trans (feq hc3).2) (by decide) (by decide) ?_
          show Steps p.tables e below (T.setTop (mkF m 43 #[.val (.int x), .val (.int (x ||| (32 : Int32))), .val (.int (0 : Int32)), .val (.int (0 : Int32))] [])) _
          refine XS.iconst X.here hx rfl (hb hby d2_43) ?_
          show Steps p.tables e below (T.setTop (mkF m 44 #[.val (.int x), .val (.int (x ||| (32 : Int32))), .val (.int (0 : Int32)), .val (.int (0 : Int32))] [(.int (1 : Int32))])) _
          refine XS.goto X.here hx rfl (pc0 := 44) (pc' := 48) rfl (hb hby d2_44) (by decide) (by decide) ?_
          show Steps p.tables e below (T.setTop (mkF m 48 #[.val (.int x), .val (.int (x ||| (32 : Int32))), .val (.int (0 : Int32)), .val (.int (0 : Int32))] [(.int (1 : Int32))])) _
          subst hv
          exact retN X hx (t := .boolean) hret (by simp) (hb hby d2_48) hr
    · rw [if_neg hc1] at hv
      refine XS.icmpNo X.here hx rfl (hb hby d2_14) rfl (flt hc1).2.2.1 ?_
      show Steps p.tables e below (T.setTop (mkF m 17 #[.val (.int x), .val (.int (x ||| (32 : Int32))), .unset, .unset] [])) _
      refine XS.iconst X.here hx rfl (hb hby d2_17) ?_
      show Steps p.tables e below (T.setTop (mkF m 18 #[.val (.int x), .val (.int (x ||| (32 : Int32))), .unset, .unset] [(.int (1 : Int32))])) _
      refine XS.goto X.here hx rfl (pc0 := 18) (pc' := 22) rfl (hb hby d2_18) (by decide) (by decide) ?_
      show Steps p.tables e below (T.setTop (mkF m 22 #[.val (.int x), .val (.int (x ||| (32 : Int32))), .unset, .unset] [(.int (1 : Int32))])) _
      refine XS.istoreN X.here hx rfl (hb hby d2_22) rfl (l' := #[.val (.int x), .val (.int (x ||| (32 : Int32))), .val (.int (1 : Int32)), .unset]) rfl ?_
      show Steps p.tables e below (T.setTop (mkF m 23 #[.val (.int x), .val (.int (x ||| (32 : Int32))), .val (.int (1 : Int32)), .unset] [])) _
      refine XS.iloadN X.here hx rfl (hb hby d2_23) rfl ?_
      show Steps p.tables e below (T.setTop (mkF m 24 #[.val (.int x), .val (.int (x ||| (32 : Int32))), .val (.int (1 : Int32)), .unset] [(.int x)])) _
      refine XS.bipush X.here hx rfl (hb hby d2_24) ?_
      show Steps p.tables e below (T.setTop (mkF m 26 #[.val (.int x), .val (.int (x ||| (32 : Int32))), .val (.int (1 : Int32)), .unset] [(.int (95 : Int32)), (.int x)])) _
      by_cases hc2 : x = (95 : Int32)
      · rw [if_pos hc2] at hv
        refine XS.icmpNo X.here hx rfl (hb hby d2_26) rfl (teq hc2).2 ?_
        show Steps p.tables e below (T.setTop (mkF m 29 #[.val (.int x), .val (.int (x ||| (32 : Int32))), .val (.int (1 : Int32)), .unset] [])) _
        refine XS.iconst X.here hx rfl (hb hby d2_29) ?_
        show Steps p.tables e below (T.setTop (mkF m 30 #[.val (.int x), .val (.int (x ||| (32 : Int32))), .val (.int (1 : Int32)), .unset] [(.int (1 : Int32))])) _
        refine XS.goto X.here hx rfl (pc0 := 30) (pc' := 34) rfl (hb hby d2_30) (by decide) (by decide) ?_
        show Steps p.tables e below (T.setTop (mkF m 34 #[.val (.int x), .val (.int (x ||| (32 : Int32))), .val (.int (1 : Int32)), .unset] [(.int (1 : Int32))])) _
        refine XS.istoreN X.here hx rfl (hb hby d2_34) rfl (l' := #[.val (.int x), .val (.int (x ||| (32 : Int32))), .val (.int (1 : Int32)), .val (.int (1 : Int32))]) rfl ?_
        show Steps p.tables e below (T.setTop (mkF m 35 #[.val (.int x), .val (.int (x ||| (32 : Int32))), .val (.int (1 : Int32)), .val (.int (1 : Int32))] [])) _
        refine XS.iloadN X.here hx rfl (hb hby d2_35) rfl ?_
        show Steps p.tables e below (T.setTop (mkF m 36 #[.val (.int x), .val (.int (x ||| (32 : Int32))), .val (.int (1 : Int32)), .val (.int (1 : Int32))] [(.int (1 : Int32))])) _
        by_cases hc3 : (1 : Int32) = (0 : Int32)
        · rw [if_pos hc3] at hv
          refine XS.ifNo X.here hx rfl (hb hby d2_36) rfl ((if0 _ _).trans (teq hc3).2) ?_
          show Steps p.tables e below (T.setTop (mkF m 39 #[.val (.int x), .val (.int (x ||| (32 : Int32))), .val (.int (1 : Int32)), .val (.int (1 : Int32))] [])) _
          refine XS.iloadN X.here hx rfl (hb hby d2_39) rfl ?_
          show Steps p.tables e below (T.setTop (mkF m 40 #[.val (.int x), .val (.int (x ||| (32 : Int32))), .val (.int (1 : Int32)), .val (.int (1 : Int32))] [(.int (1 : Int32))])) _
          by_cases hc4 : (1 : Int32) = (0 : Int32)
          · rw [if_pos hc4] at hv
            refine XS.ifYes X.here hx rfl (pc0 := 40) (pc' := 47) rfl (hb hby d2_40) rfl ((if0 _ _).trans (teq hc4).1) (by decide) (by decide) ?_
            show Steps p.tables e below (T.setTop (mkF m 47 #[.val (.int x), .val (.int (x ||| (32 : Int32))), .val (.int (1 : Int32)), .val (.int (1 : Int32))] [])) _
            refine XS.iconst X.here hx rfl (hb hby d2_47) ?_
            show Steps p.tables e below (T.setTop (mkF m 48 #[.val (.int x), .val (.int (x ||| (32 : Int32))), .val (.int (1 : Int32)), .val (.int (1 : Int32))] [(.int (0 : Int32))])) _
            subst hv
            exact retN X hx (t := .boolean) hret (by simp) (hb hby d2_48) hr
          · rw [if_neg hc4] at hv
            refine XS.ifNo X.here hx rfl (hb hby d2_40) rfl ((if0 _ _).trans (feq hc4).1) ?_
            show Steps p.tables e below (T.setTop (mkF m 43 #[.val (.int x), .val (.int (x ||| (32 : Int32))), .val (.int (1 : Int32)), .val (.int (1 : Int32))] [])) _
            refine XS.iconst X.here hx rfl (hb hby d2_43) ?_
            show Steps p.tables e below (T.setTop (mkF m 44 #[.val (.int x), .val (.int (x ||| (32 : Int32))), .val (.int (1 : Int32)), .val (.int (1 : Int32))] [(.int (1 : Int32))])) _
            refine XS.goto X.here hx rfl (pc0 := 44) (pc' := 48) rfl (hb hby d2_44) (by decide) (by decide) ?_
            show Steps p.tables e below (T.setTop (mkF m 48 #[.val (.int x), .val (.int (x ||| (32 : Int32))), .val (.int (1 : Int32)), .val (.int (1 : Int32))] [(.int (1 : Int32))])) _
            subst hv
            exact retN X hx (t := .boolean) hret (by simp) (hb hby d2_48) hr
        · rw [if_neg hc3] at hv
          refine XS.ifYes X.here hx rfl (pc0 := 36) (pc' := 43) rfl (hb hby d2_36) rfl ((if0 _ _).trans (feq hc3).2) (by decide) (by decide) ?_
          show Steps p.tables e below (T.setTop (mkF m 43 #[.val (.int x), .val (.int (x ||| (32 : Int32))), .val (.int (1 : Int32)), .val (.int (1 : Int32))] [])) _
          refine XS.iconst X.here hx rfl (hb hby d2_43) ?_
          show Steps p.tables e below (T.setTop (mkF m 44 #[.val (.int x), .val (.int (x ||| (32 : Int32))), .val (.int (1 : Int32)), .val (.int (1 : Int32))] [(.int (1 : Int32))])) _
          refine XS.goto X.here hx rfl (pc0 := 44) (pc' := 48) rfl (hb hby d2_44) (by decide) (by decide) ?_
          show Steps p.tables e below (T.setTop (mkF m 48 #[.val (.int x), .val (.int (x ||| (32 : Int32))), .val (.int (1 : Int32)), .val (.int (1 : Int32))] [(.int (1 : Int32))])) _
          subst hv
          exact retN X hx (t := .boolean) hret (by simp) (hb hby d2_48) hr
      · rw [if_neg hc2] at hv
        refine XS.icmpYes X.here hx rfl (pc0 := 26) (pc' := 33) rfl (hb hby d2_26) rfl (feq hc2).2 (by decide) (by decide) ?_
        show Steps p.tables e below (T.setTop (mkF m 33 #[.val (.int x), .val (.int (x ||| (32 : Int32))), .val (.int (1 : Int32)), .unset] [])) _
        refine XS.iconst X.here hx rfl (hb hby d2_33) ?_
        show Steps p.tables e below (T.setTop (mkF m 34 #[.val (.int x), .val (.int (x ||| (32 : Int32))), .val (.int (1 : Int32)), .unset] [(.int (0 : Int32))])) _
        refine XS.istoreN X.here hx rfl (hb hby d2_34) rfl (l' := #[.val (.int x), .val (.int (x ||| (32 : Int32))), .val (.int (1 : Int32)), .val (.int (0 : Int32))]) rfl ?_
        show Steps p.tables e below (T.setTop (mkF m 35 #[.val (.int x), .val (.int (x ||| (32 : Int32))), .val (.int (1 : Int32)), .val (.int (0 : Int32))] [])) _
        refine XS.iloadN X.here hx rfl (hb hby d2_35) rfl ?_
        show Steps p.tables e below (T.setTop (mkF m 36 #[.val (.int x), .val (.int (x ||| (32 : Int32))), .val (.int (1 : Int32)), .val (.int (0 : Int32))] [(.int (1 : Int32))])) _
        by_cases hc3 : (1 : Int32) = (0 : Int32)
        · rw [if_pos hc3] at hv
          refine XS.ifNo X.here hx rfl (hb hby d2_36) rfl ((if0 _ _).trans (teq hc3).2) ?_
          show Steps p.tables e below (T.setTop (mkF m 39 #[.val (.int x), .val (.int (x ||| (32 : Int32))), .val (.int (1 : Int32)), .val (.int (0 : Int32))] [])) _
          refine XS.iloadN X.here hx rfl (hb hby d2_39) rfl ?_
          show Steps p.tables e below (T.setTop (mkF m 40 #[.val (.int x), .val (.int (x ||| (32 : Int32))), .val (.int (1 : Int32)), .val (.int (0 : Int32))] [(.int (0 : Int32))])) _
          by_cases hc4 : (0 : Int32) = (0 : Int32)
          · rw [if_pos hc4] at hv
            refine XS.ifYes X.here hx rfl (pc0 := 40) (pc' := 47) rfl (hb hby d2_40) rfl ((if0 _ _).trans (teq hc4).1) (by decide) (by decide) ?_
            show Steps p.tables e below (T.setTop (mkF m 47 #[.val (.int x), .val (.int (x ||| (32 : Int32))), .val (.int (1 : Int32)), .val (.int (0 : Int32))] [])) _
            refine XS.iconst X.here hx rfl (hb hby d2_47) ?_
            show Steps p.tables e below (T.setTop (mkF m 48 #[.val (.int x), .val (.int (x ||| (32 : Int32))), .val (.int (1 : Int32)), .val (.int (0 : Int32))] [(.int (0 : Int32))])) _
            subst hv
            exact retN X hx (t := .boolean) hret (by simp) (hb hby d2_48) hr
          · rw [if_neg hc4] at hv
            refine XS.ifNo X.here hx rfl (hb hby d2_40) rfl ((if0 _ _).trans (feq hc4).1) ?_
            show Steps p.tables e below (T.setTop (mkF m 43 #[.val (.int x), .val (.int (x ||| (32 : Int32))), .val (.int (1 : Int32)), .val (.int (0 : Int32))] [])) _
            refine XS.iconst X.here hx rfl (hb hby d2_43) ?_
            show Steps p.tables e below (T.setTop (mkF m 44 #[.val (.int x), .val (.int (x ||| (32 : Int32))), .val (.int (1 : Int32)), .val (.int (0 : Int32))] [(.int (1 : Int32))])) _
            refine XS.goto X.here hx rfl (pc0 := 44) (pc' := 48) rfl (hb hby d2_44) (by decide) (by decide) ?_
            show Steps p.tables e below (T.setTop (mkF m 48 #[.val (.int x), .val (.int (x ||| (32 : Int32))), .val (.int (1 : Int32)), .val (.int (0 : Int32))] [(.int (1 : Int32))])) _
            subst hv
            exact retN X hx (t := .boolean) hret (by simp) (hb hby d2_48) hr
        · rw [if_neg hc3] at hv
          refine XS.ifYes X.here hx rfl (pc0 := 36) (pc' := 43) rfl (hb hby d2_36) rfl ((if0 _ _).trans (feq hc3).2) (by decide) (by decide) ?_
          show Steps p.tables e below (T.setTop (mkF m 43 #[.val (.int x), .val (.int (x ||| (32 : Int32))), .val (.int (1 : Int32)), .val (.int (0 : Int32))] [])) _
          refine XS.iconst X.here hx rfl (hb hby d2_43) ?_
          show Steps p.tables e below (T.setTop (mkF m 44 #[.val (.int x), .val (.int (x ||| (32 : Int32))), .val (.int (1 : Int32)), .val (.int (0 : Int32))] [(.int (1 : Int32))])) _
          refine XS.goto X.here hx rfl (pc0 := 44) (pc' := 48) rfl (hb hby d2_44) (by decide) (by decide) ?_
          show Steps p.tables e below (T.setTop (mkF m 48 #[.val (.int x), .val (.int (x ||| (32 : Int32))), .val (.int (1 : Int32)), .val (.int (0 : Int32))] [(.int (1 : Int32))])) _
          subst hv
          exact retN X hx (t := .boolean) hret (by simp) (hb hby d2_48) hr
theorem pn_2 : plainName "com/example/spurion/spurion/model/LexerIsNameStartPinLaw" = true := by first | (simp [plainName, overriddenIn]; done) | decide +kernel
theorem ef_2 (m : MethodId) (x0 : Int32) : entryFrame m #[(.int x0)] 4 = mkF m 0 #[.val (.int x0), .unset, .unset, .unset] [] := by first | (simp [entryFrame, mkF, argsToLocals, Value.category]; done) | rfl
def Q2 (Z : State) (p1 : Int32) (h0 : Heap) (n0 : Nat) (v : Option Value) (h : Heap) (L : List Loc) : Prop := v = some (.int (v2_0 p1)) ∧ Fr n0 L ∧ h = h0
set_option maxRecDepth 65536 in
set_option maxHeartbeats 40000000 in
theorem rm2 (l : Launch) (Z : State) (a0 : Array Value) (hw : ∀ d ∈ tables_1, d.before a0 Z = true) (ws : List Jvm.Cond) (p1 : Int32) (h0 : Heap) (n0 : Nat) :
    MetFree l (⟨"com/example/spurion/spurion/model/LexerIsNameStartPinLaw", "reference", "(I)Z"⟩ : MethodName) (head1 (Jvm.Cond.code (⟨"com/example/spurion/spurion/model/LexerIsNameStartPinLaw", "reference", "(I)Z"⟩ : MethodName) method_2_code 4 (some .boolean) :: ws) ({ frames := 0, cells := 0, slots := 0, locals := 0 } : Room)) (fun a U => a = #[(.int p1)] ∧ Z.Warmed39 U.vm ∧ U.heap = h0) (fun _ _ _ _ _ => True) (fun _ U o U' => ∃ v L, o = .returned v ∧ Q2 Z p1 h0 n0 v U'.heap L ∧ FrameEnd U o U' L ({ frames := 0, cells := 0, slots := 0, locals := 0 } : Room).cells ({ frames := 0, cells := 0, slots := 0, locals := 0 } : Room).slots) := by
  refine MetFree.of_bodySF (plainFor_of_name pn_2) hisR ?_
  intro p e s m args below meth c s₁ Bd hml0 hP hK
  obtain ⟨rfl, hZ, hh⟩ := hP
  have hx := Bd.exec
  have hby := Bd.bytes
  have hown : s.vm.findClass "com/example/spurion/spurion/model/LexerIsNameStartPinLaw" = some m.cls := findClass_of_methodNamed Bd.named
  have X0 : Stand p l e ({ frames := 0, cells := 0, slots := 0, locals := 0 } : Room) s m #[(.int p1)] below meth c s₁ [] 0 0 := Stand.of_body Bd
  have e0 : s₁.heap = h0 := by rw [← hh, Bd.state]; rfl
  have N0 := Fr.nil n0
  have pre0 : ∀ t, Steps p.tables e below (s₁.setTop (mkF m 0 #[.val (.int p1), .unset, .unset, .unset] [])) t → Steps p.tables e below (s₁.setTop (entryFrame m #[(.int p1)] 4)) t := fun t k => castTop (ef_2 m p1) k
  obtain ⟨fs, hr, hrun, hended, hW, hsame⟩ := X0.leave (v := some (.int (v2_0 p1))) (fun h => by rw [Bd.returns] at h; cases h)
  refine ⟨_, _, pre0 _ ?_, hrun, hended, _, _, rfl, ?_, ⟨_, rfl⟩, hW, hsame.mono (by decide) (by decide)⟩
  · exact b2_0 X0 hx hZ hw hby hown Bd.returns p1 _ rfl hr
  · show Q2 Z p1 h0 n0 _ s₁.heap _
    rw [e0]
    exact ⟨rfl, N0, rfl⟩
theorem r2_0 (x : Int32) : v2_0 x = (if (x ||| (32 : Int32)) < (97 : Int32) then (if x = (95 : Int32) then (if (0 : Int32) = (0 : Int32) then (if (1 : Int32) = (0 : Int32) then (0 : Int32) else (1 : Int32)) else (1 : Int32)) else (if (0 : Int32) = (0 : Int32) then (if (0 : Int32) = (0 : Int32) then (0 : Int32) else (1 : Int32)) else (1 : Int32))) else (if (122 : Int32) < (x ||| (32 : Int32)) then (if x = (95 : Int32) then (if (0 : Int32) = (0 : Int32) then (if (1 : Int32) = (0 : Int32) then (0 : Int32) else (1 : Int32)) else (1 : Int32)) else (if (0 : Int32) = (0 : Int32) then (if (0 : Int32) = (0 : Int32) then (0 : Int32) else (1 : Int32)) else (1 : Int32))) else (if x = (95 : Int32) then (if (1 : Int32) = (0 : Int32) then (if (1 : Int32) = (0 : Int32) then (0 : Int32) else (1 : Int32)) else (1 : Int32)) else (if (1 : Int32) = (0 : Int32) then (if (0 : Int32) = (0 : Int32) then (0 : Int32) else (1 : Int32)) else (1 : Int32))))) := rfl
/-! the plain law -/
theorem own_or32 (n : Nat) : (n ||| 32) / 64 = n / 64 ∧ ((n % 64 < 32 ∧ (n ||| 32) % 64 = n % 64 + 32) ∨ (32 ≤ n % 64 ∧ (n ||| 32) % 64 = n % 64)) := by
  have h1 : (n ||| 32) / 2 ^ 6 = n / 2 ^ 6 ||| 32 / 2 ^ 6 := Nat.or_div_two_pow
  have h2 : (n ||| 32) % 64 = n % 64 ||| 32 := Nat.or_mod_two_pow (n := 6)
  have h3 : ∀ m : Fin 64, (m.val < 32 ∧ (m.val ||| 32) = m.val + 32) ∨ (32 ≤ m.val ∧ (m.val ||| 32) = m.val) := by decide
  refine ⟨by simpa using h1, ?_⟩
  rw [h2]
  exact h3 ⟨n % 64, Nat.mod_lt _ (by decide)⟩
theorem own_fold (x : Int32) : (97 ≤ (x ||| 32).toInt ∧ (x ||| 32).toInt ≤ 122) ↔ ((65 ≤ x.toInt ∧ x.toInt ≤ 90) ∨ (97 ≤ x.toInt ∧ x.toInt ≤ 122)) := by
  obtain ⟨h1, h2⟩ := own_or32 x.toBitVec.toNat
  have e1 : x.toInt = if 2 * x.toBitVec.toNat < 2 ^ 32 then (x.toBitVec.toNat : Int) else x.toBitVec.toNat - (2 ^ 32 : Nat) := BitVec.toInt_eq_toNat_cond _
  have e2 : (x ||| 32).toInt = if 2 * (x.toBitVec.toNat ||| 32) < 2 ^ 32 then ((x.toBitVec.toNat ||| 32 : Nat) : Int) else (x.toBitVec.toNat ||| 32 : Nat) - (2 ^ 32 : Nat) := BitVec.toInt_eq_toNat_cond _
  have h3 : x.toBitVec.toNat < 2 ^ 32 := x.toBitVec.isLt
  rw [e1, e2]
  generalize x.toBitVec.toNat ||| 32 = b at *
  generalize x.toBitVec.toNat = a at *
  omega
theorem own_same (x : Int32) : v1_0 x = v2_0 x := by
  have hf := own_fold x
  simp only [r1_0, r1_30, r1_12, r1_24, r1_34, r2_0]
  simp only [Int32.lt_iff_toInt_lt, ← Int32.toInt_inj, apply_ite Int32.toInt, Int32.reduceToInt]
  simp only [reduceIte, Int.reduceEq]
  generalize (x ||| 32).toInt = y at *
  omega
theorem pn_0 : plainName "com/example/spurion/spurion/model/LexerIsNameStartPinLaw" = true := by first | (simp [plainName, overriddenIn]; done) | decide +kernel
theorem pd_0_0 : parseMethodDescriptor "(I)Z" = some ⟨[.int], some .boolean⟩ := by decide +kernel
theorem ef_0 (m : MethodId) (x0 : Int32) (x1 : Int32) : entryFrame m #[(.int x0), (.int x1)] maxLocals = mkF m 0 #[.val (.int x0), .val (.int x1), .unset] [] := by first | (simp [entryFrame, mkF, argsToLocals, Value.category, maxLocals]; done) | rfl
set_option maxRecDepth 65536 in
set_option maxHeartbeats 40000000 in
theorem tail0 {p : Program} {l : Launch} {e : Env} {s : State} {m : MethodId} {args : Array Value} {below : List Frame} {meth : Method} {c : Code} {T : State} {locs : List Loc} {cells slots : Nat} {Z : State} {a0 : Array Value} (X : Stand p l e room_1 s m args below meth c T locs cells slots) (hx : p.tables.exec = Jvm.exec) (hZ : Z.Warmed39 s.vm) (hw : ∀ d ∈ tables_1, d.before a0 Z = true) (hby : c.code = code) (hml : c.maxLocals = 3) (hown : s.vm.findClass "com/example/spurion/spurion/model/LexerIsNameStartPinLaw" = some m.cls) (hret : meth.sig.returnType = some .boolean) (hlk : meth.locks = false) (h : Heap) (eT : T.heap = h) (n0 : Nat) (N0 : Fr n0 locs) (hcl : cells ≤ room_1.cells) (hsl : slots ≤ room_1.slots) (s0 : Slot) (s1 : Slot) (cc : Int32) :
    ∃ (u : State) (L : List Loc), Steps p.tables e below (T.setTop (mkF m 17 #[s0, s1, .val (.int cc)] [])) u ∧ u.status = .running ∧ Ended u below (.returned (some (.int (1 : Int32)))) ∧ s.WarmedH u.vm ∧ s.sameButNew ({ u with vm := s.vm } : State) L cells slots ∧ Fr n0 L := by
  obtain ⟨_, _, ⟨T3, L3, k3, n3⟩, -, X3, ⟨Lc3, hQ3, l3, y3, z3⟩, st3⟩ := Jvm.LawKit.callS X hx (y := (⟨"com/example/spurion/spurion/model/Lexer", "isNameStart", "(I)Z"⟩ : MethodName)) hown (mvT hZ (hw _ (List.mem_of_getElem? (i := 0) rfl))) (mvT hZ (hw _ (List.mem_of_getElem? (i := 1) rfl))) (mvT hZ (hw _ (List.mem_of_getElem? (i := 2) rfl))) (mvT hZ (hw _ (List.mem_of_getElem? (i := 3) rfl))) (by decide) (backOf (W := 0) (rm1 l Z a0 hw [] cc h n0) hZ (hw _ (List.mem_of_getElem? (i := 3) rfl)) (hw _ (List.mem_of_getElem? (i := 2) rfl)) (by decide) (by decide)) (g := (mkF m 18 #[s0, s1, .val (.int cc)] [(.int cc)])) rfl (by rw [hml]; rfl) (argsL := [(.int cc)]) (rest := []) (lenOf pd_0_0 rfl) rfl (by show 2 * 0 + _ ≤ _; exact Nat.le_of_eq rfl) (hb hby at_18) (fun _ _ => ⟨rfl, eT, hcl, hsl⟩)
  dsimp only [Pt.U, Pt.locs, Pt.cells, Pt.slots] at X3 l3 y3 z3 st3 hQ3
  subst l3 y3 z3
  obtain ⟨rfl, N3q, e3⟩ := hQ3
  obtain ⟨_, _, ⟨T4, L4, k4, n4⟩, -, X4, ⟨Lc4, hQ4, l4, y4, z4⟩, st4⟩ := Jvm.LawKit.callS X3 hx (y := (⟨"com/example/spurion/spurion/model/LexerIsNameStartPinLaw", "reference", "(I)Z"⟩ : MethodName)) hown (mvT hZ (hw _ (List.mem_of_getElem? (i := 4) rfl))) (mvT hZ (hw _ (List.mem_of_getElem? (i := 5) rfl))) (mvT hZ (hw _ (List.mem_of_getElem? (i := 6) rfl))) (mvT hZ (hw _ (List.mem_of_getElem? (i := 7) rfl))) (by decide) (backOf (W := 1) (rm2 l Z a0 hw [] cc h n0) hZ (hw _ (List.mem_of_getElem? (i := 7) rfl)) (hw _ (List.mem_of_getElem? (i := 6) rfl)) (by decide) (by decide)) (g := (mkF m 22 #[s0, s1, .val (.int cc)] [(.int cc), (.int (v1_0 cc))])) rfl (by rw [hml]; rfl) (argsL := [(.int cc)]) (rest := [(.int (v1_0 cc))]) (lenOf pd_0_0 rfl) rfl (by show 2 * 0 + _ ≤ _; exact Nat.le_of_eq rfl) (hb hby at_22) (fun _ _ => ⟨rfl, e3, hcl, hsl⟩)
  dsimp only [Pt.U, Pt.locs, Pt.cells, Pt.slots] at X4 l4 y4 z4 st4 hQ4
  subst l4 y4 z4
  obtain ⟨rfl, N4q, e4⟩ := hQ4
  have N4 := Fr.app (Fr.app N0 N3q) N4q
  obtain ⟨fs, hr, hrun, hended, hW, hsame⟩ := X4.leave (v := some (.int (1 : Int32))) (fun h => by rw [hret] at h; cases h)
  refine ⟨_, _, ?_, hrun, hended, hW, hsame, N4⟩
  show Steps p.tables e below (T.setTop (mkF m 17 #[s0, s1, .val (.int cc)] [])) _
  refine XS.iloadN X.here hx rfl (hb hby at_17) rfl ?_
  show Steps p.tables e below (T.setTop (mkF m 18 #[s0, s1, .val (.int cc)] [(.int cc)])) _
  refine st3 _ ?_
  show Steps p.tables e below (T3.setTop (mkF m 21 #[s0, s1, .val (.int cc)] [(.int (v1_0 cc))])) _
  refine XS.iloadN X3.here hx rfl (hb hby at_21) rfl ?_
  show Steps p.tables e below (T3.setTop (mkF m 22 #[s0, s1, .val (.int cc)] [(.int cc), (.int (v1_0 cc))])) _
  refine st4 _ ?_
  show Steps p.tables e below (T4.setTop (mkF m 25 #[s0, s1, .val (.int cc)] [(.int (v2_0 cc)), (.int (v1_0 cc))])) _
  refine XS.icmpNo X4.here hx rfl (hb hby at_25) rfl (teq (own_same cc)).2 ?_
  show Steps p.tables e below (T4.setTop (mkF m 28 #[s0, s1, .val (.int cc)] [])) _
  refine XS.iconst X4.here hx rfl (hb hby at_28) ?_
  show Steps p.tables e below (T4.setTop (mkF m 29 #[s0, s1, .val (.int cc)] [(.int (1 : Int32))])) _
  refine XS.goto X4.here hx rfl (pc0 := 29) (pc' := 33) rfl (hb hby at_29) (by decide) (by decide) ?_
  show Steps p.tables e below (T4.setTop (mkF m 33 #[s0, s1, .val (.int cc)] [(.int (1 : Int32))])) _
  exact retN X4 hx (t := .boolean) hret (by simp) (hb hby at_33) hr
def Q0 (h0 : Heap) (n0 : Nat) (v : Option Value) (h : Heap) (L : List Loc) : Prop := v = some (.int (1 : Int32)) ∧ Fr n0 L
set_option maxRecDepth 65536 in
set_option maxHeartbeats 40000000 in
theorem rm0 (l : Launch) (Z : State) (a0 : Array Value) (hw : ∀ d ∈ tables_1, d.before a0 Z = true) (ws : List Jvm.Cond) (p1 : Int32) (p2 : Int32) (h0 : Heap) (n0 : Nat) (Z0 : n0 ≤ h0.size) :
    MetFree l x (head1 (Jvm.Cond.code x code maxLocals ret :: ws) room_1) (fun a U => a = #[(.int p1), (.int p2)] ∧ Z.Warmed39 U.vm ∧ U.heap = h0) (fun _ _ _ _ _ => True) (fun _ U o U' => ∃ v L, o = .returned v ∧ Q0 h0 n0 v U'.heap L ∧ FrameEnd U o U' L room_1.cells room_1.slots) := by
  refine MetFree.of_bodySF (plainFor_of_name pn_0) hisR ?_
  intro p e s m args below meth c s₁ Bd hml0 hP hK
  obtain ⟨rfl, hZ, hh⟩ := hP
  have hx := Bd.exec
  have hby := Bd.bytes
  have hlk := Bd.notSynchronized
  have hret : meth.sig.returnType = some .boolean := Bd.returns
  have hml : c.maxLocals = 3 := hml0
  have hown : s.vm.findClass "com/example/spurion/spurion/model/LexerIsNameStartPinLaw" = some m.cls := findClass_of_methodNamed Bd.named
  have X0 : Stand p l e room_1 s m #[(.int p1), (.int p2)] below meth c s₁ [] 0 0 := Stand.of_body Bd
  have e0 : s₁.heap = h0 := by rw [← hh, Bd.state]; rfl
  have N0 := Fr.nil n0
  have pre0 : ∀ t, Steps p.tables e below (s₁.setTop (mkF m 0 #[.val (.int p1), .val (.int p2), .unset] [])) t → Steps p.tables e below (s₁.setTop (entryFrame m #[(.int p1), (.int p2)] maxLocals)) t := fun t k => castTop (ef_0 m p1 p2) k
  by_cases hc : (p2 &&& (1 : Int32)) = (0 : Int32)
  · obtain ⟨u, L, st, hrun, hended, hW, hsame, N⟩ := tail0 X0 hx hZ hw hby hml hown hret hlk h0 e0 n0 N0 (by decide) (by decide) (.val (.int p1)) (.val (.int p2)) p1
    refine ⟨_, _, pre0 _ ?_, hrun, hended, _, _, rfl, ⟨rfl, N⟩, ⟨_, rfl⟩, hW, hsame.mono (by decide) (by decide)⟩
    show Steps p.tables e below (s₁.setTop (mkF m 0 #[.val (.int p1), .val (.int p2), .unset] [])) _
    refine XS.iloadN X0.here hx rfl (hb hby at_0) rfl ?_
    show Steps p.tables e below (s₁.setTop (mkF m 1 #[.val (.int p1), .val (.int p2), .unset] [(.int p2)])) _
    refine XS.iconst X0.here hx rfl (hb hby at_1) ?_
    show Steps p.tables e below (s₁.setTop (mkF m 2 #[.val (.int p1), .val (.int p2), .unset] [(.int (1 : Int32)), (.int p2)])) _
    refine XS.iand X0.here hx rfl (hb hby at_2) rfl ?_
    show Steps p.tables e below (s₁.setTop (mkF m 3 #[.val (.int p1), .val (.int p2), .unset] [(.int (p2 &&& (1 : Int32)))])) _
    refine XS.ifYes X0.here hx rfl (pc0 := 3) (pc' := 15) rfl (hb hby at_3) rfl ((if0 _ _).trans (teq hc).1) (by decide) (by decide) ?_
    show Steps p.tables e below (s₁.setTop (mkF m 15 #[.val (.int p1), .val (.int p2), .unset] [])) _
    refine XS.iloadN X0.here hx rfl (hb hby at_15) rfl ?_
    show Steps p.tables e below (s₁.setTop (mkF m 16 #[.val (.int p1), .val (.int p2), .unset] [(.int p1)])) _
    refine XS.istoreN X0.here hx rfl (hb hby at_16) rfl (l' := #[.val (.int p1), .val (.int p2), .val (.int p1)]) rfl ?_
    show Steps p.tables e below (s₁.setTop (mkF m 17 #[.val (.int p1), .val (.int p2), .val (.int p1)] [])) _
    exact st
  · obtain ⟨u, L, st, hrun, hended, hW, hsame, N⟩ := tail0 X0 hx hZ hw hby hml hown hret hlk h0 e0 n0 N0 (by decide) (by decide) (.val (.int p1)) (.val (.int p2)) (p1 &&& (255 : Int32))
    refine ⟨_, _, pre0 _ ?_, hrun, hended, _, _, rfl, ⟨rfl, N⟩, ⟨_, rfl⟩, hW, hsame.mono (by decide) (by decide)⟩
    show Steps p.tables e below (s₁.setTop (mkF m 0 #[.val (.int p1), .val (.int p2), .unset] [])) _
    refine XS.iloadN X0.here hx rfl (hb hby at_0) rfl ?_
    show Steps p.tables e below (s₁.setTop (mkF m 1 #[.val (.int p1), .val (.int p2), .unset] [(.int p2)])) _
    refine XS.iconst X0.here hx rfl (hb hby at_1) ?_
    show Steps p.tables e below (s₁.setTop (mkF m 2 #[.val (.int p1), .val (.int p2), .unset] [(.int (1 : Int32)), (.int p2)])) _
    refine XS.iand X0.here hx rfl (hb hby at_2) rfl ?_
    show Steps p.tables e below (s₁.setTop (mkF m 3 #[.val (.int p1), .val (.int p2), .unset] [(.int (p2 &&& (1 : Int32)))])) _
    refine XS.ifNo X0.here hx rfl (hb hby at_3) rfl ((if0 _ _).trans (feq hc).1) ?_
    show Steps p.tables e below (s₁.setTop (mkF m 6 #[.val (.int p1), .val (.int p2), .unset] [])) _
    refine XS.iloadN X0.here hx rfl (hb hby at_6) rfl ?_
    show Steps p.tables e below (s₁.setTop (mkF m 7 #[.val (.int p1), .val (.int p2), .unset] [(.int p1)])) _
    refine XS.sipush X0.here hx rfl (hb hby at_7) ?_
    show Steps p.tables e below (s₁.setTop (mkF m 10 #[.val (.int p1), .val (.int p2), .unset] [(.int (255 : Int32)), (.int p1)])) _
    refine XS.iand X0.here hx rfl (hb hby at_10) rfl ?_
    show Steps p.tables e below (s₁.setTop (mkF m 11 #[.val (.int p1), .val (.int p2), .unset] [(.int (p1 &&& (255 : Int32)))])) _
    refine XS.istoreN X0.here hx rfl (hb hby at_11) rfl (l' := #[.val (.int p1), .val (.int p2), .val (.int (p1 &&& (255 : Int32)))]) rfl ?_
    show Steps p.tables e below (s₁.setTop (mkF m 12 #[.val (.int p1), .val (.int p2), .val (.int (p1 &&& (255 : Int32)))] [])) _
    refine XS.goto X0.here hx rfl (pc0 := 12) (pc' := 17) rfl (hb hby at_12) (by decide) (by decide) ?_
    show Steps p.tables e below (s₁.setTop (mkF m 17 #[.val (.int p1), .val (.int p2), .val (.int (p1 &&& (255 : Int32)))] [])) _
    exact st
set_option maxRecDepth 65536 in
set_option maxHeartbeats 40000000 in
theorem comes_1 {Post : Tables → Env → Array Value → State → Outcome → State → Prop} (hpost : ∀ tb e args s v u, (limb_1_1.after args s (.returned v) u = true ∧ limb_1_2.after args s (.returned v) u = true ∧ True) → FrameEnd s (.returned v) u (Jvm.fieldLocs frame_1_writes args s ++ Jvm.arrayLocs frame_1_arrays args s ++ Jvm.staticLocs frame_1_statics s) 0 0 → Post tb e args s (.returned v) u) :
    ArmFor flags0 classFile x code maxLocals ret World_1 tables_1 room_1 Calls_1 rest_1 Pre_1 Post := by
  intro l hfl _ _ p e ha hc hk s m args below hf hA hF happ hP
  obtain ⟨hcalls, hrest, hpre⟩ := hP
  obtain ⟨-, -, -, hnamed, -, -, -, hat⟩ := (Spec.applies_iff hf).mp happ
  obtain ⟨hg, hn⟩ := and_e (Cond.before_iff.mp (show (Jvm.Cond.and given_1 narrow_1).before args s = true from hpre))
  obtain ⟨gc, g0⟩ := and_e hg
  obtain ⟨ga0, g1⟩ := and_e g0
  obtain ⟨w0, w1, rfl⟩ : ∃ w0 w1 : Value, args = #[w0, w1] := by
    have hs : args.size = 2 := by simpa [Cond.value, given_1] using gc
    obtain ⟨L⟩ := args
    match L, hs with
    | [w0, w1], _ => exact ⟨w0, w1, rfl⟩
  have hw := fun d (hd : d ∈ tables_1) => atoms_spec (ws := Jvm.Cond.code x code maxLocals ret :: tables_1) hat d (List.mem_cons_of_mem _ hd)
  obtain ⟨i0, ei0⟩ := is_v ga0
  obtain rfl : w0 = (.int i0) := Option.some.inj ei0
  obtain ⟨i1, ei1⟩ := is_v g1
  obtain rfl : w1 = (.int i1) := Option.some.inj ei1
  obtain ⟨n, o, h1, h2, h3, _, L, rfl, ⟨rfl, N⟩, hq⟩ := rm0 l s _ hw tables_1 i0 i1 s.heap s.heap.size (Nat.le_refl _) p e ha hc hk s m _ below hf ((Spec.applies_iff_loose hf).mp happ).1 ⟨rfl, State.Warmed39.refl s, rfl⟩ trivial
  refine ⟨n, _, h1, h2, h3, hpost _ _ _ _ _ _ ⟨Cond.after_iff.mpr rfl, Cond.after_iff.mpr (eq_i res_at (Term.int_eval (1)) rfl), trivial⟩ ⟨hq.1, hq.2.1, (hq.2.2.sift fun y hy => Or.inr (N y hy)).mono (by decide) (by decide)⟩⟩
theorem main_1_1 : Claimed_1_1 := comes_1 fun _ _ _ _ _ _ h hF => ⟨h.1, hF⟩
theorem main_1_2 : Claimed_1_2 := comes_1 fun _ _ _ _ _ _ h hF => ⟨h.2.1, hF⟩
end Jvm.Pilot.@@N@@
namespace Jvm.Pilot.@@N@@
open Jvm Jvm.ClassFile Sem Op Lib Jvm.Free Jvm.Stand Jvm.Pilot.@@N@@.Jvm.D
/-! MADE BY PROGRAM (witnessworld.py) out of the Statement's table words and the real class files: 9 classes; the members and pool entries that the words name. The judged class is class 1, her method 2. -/
namespace start1
open Jvm.ClassFile
def u (s : String) : CpInfo := .utf8 (stringToUtf16 s)
/-- a pool by its gaps: so many unusable entries, then the entry; so many at the end -/
def gap : Nat → List CpInfo → List CpInfo
  | 0, r => r
  | n + 1, r => .unusable :: gap n r
def poolList (es : List (Nat × CpInfo)) (last : Nat) : List CpInfo := es.foldr (fun e r => gap e.1 (e.2 :: r)) (gap last [])
def pool (es : List (Nat × CpInfo)) (last : Nat) : Array CpInfo := ⟨poolList es last⟩
def fileOf (pool : Array CpInfo) (this : Nat) (attrs : Array Attribute := #[]) (ms : Array MethodInfo := #[]) (fl : Nat := 33) (sup : Nat := 0) (ifs : Array Nat := #[]) (fds : Array FieldInfo := #[]) : ClassFile where
  minorVersion := 0
  majorVersion := 65
  constantPool := pool
  accessFlags := fl
  thisClass := this
  superClass := sup
  interfaces := ifs
  fields := fds
  methods := ms
  attributes := attrs
def plain (name : String) (sup : Option ClassId) : Class where
  name := name
  kind := .ordinary
  loader := none
  accessFlags := 33
  super := sup
  interfaces := #[]
  cf := none
  fields := #[]
  methods := #[]
  instanceTypes := #[]
  staticTypes := #[]
  resolved := #[]
  callSites := []
  init := .initialized
  statics := none
  mirror := none

def pool0 : Array CpInfo := pool [(5, u "<init>"), (0, u "()V"), (1, .class_ 10), (1, u "java/lang/Object")] 113

def k0m0 : Method := { name := "<init>", desc := "()V", sig := { parameters := [], returnType := none }, accessFlags := 1, code := none }
/-- java/lang/Object -/
def k0 : Class := { plain "java/lang/Object" none with
  accessFlags := 33
  interfaces := #[]
  cf := some (fileOf pool0 8 #[] #[{ accessFlags := 1, nameIndex := 5, descriptorIndex := 6, attributes := #[] }] 33 0 #[] #[])
  fields := #[]
  methods := #[k0m0]
  instanceTypes := #[]
  staticTypes := #[]
  resolved := Array.replicate 124 none
  statics := none }

def pool1 : Array CpInfo := pool [(2, .class_ 4), (1, u "java/lang/Object"), (0, u "<init>"), (0, u "()V"), (0, .methodref 8 9), (0, .class_ 10), (0, .nameAndType 11 12), (0, u "com/example/spurion/spurion/model/Lexer"), (0, u "isNameStart"), (0, u "(I)Z"), (0, .methodref 14 15), (0, .class_ 16), (0, .nameAndType 17 12), (0, u "com/example/spurion/spurion/model/LexerIsNameStartPinLaw"), (0, u "reference"), (3, u "law"), (0, u "(II)Z")] 2

def k1m0 : Method := { name := "<init>", desc := "()V", sig := { parameters := [], returnType := none }, accessFlags := 2, code := none }
def k1c1 : Code := { maxStack := 2, maxLocals := 4, code := method_2_code, exceptionTable := #[], attributes := #[] }
def k1m1 : Method := { name := "reference", desc := "(I)Z", sig := { parameters := [.int], returnType := some .boolean }, accessFlags := 10, code := some k1c1 }
def k1c2 : Code := { maxStack := 2, maxLocals := 3, code := code, exceptionTable := #[], attributes := #[] }
def k1m2 : Method := { name := "law", desc := "(II)Z", sig := { parameters := [.int, .int], returnType := some .boolean }, accessFlags := 9, code := some k1c2 }
/-- com/example/spurion/spurion/model/LexerIsNameStartPinLaw -/
def k1 : Class := { plain "com/example/spurion/spurion/model/LexerIsNameStartPinLaw" (some 0) with
  accessFlags := 49
  interfaces := #[]
  cf := some (fileOf pool1 14 #[] #[{ accessFlags := 2, nameIndex := 5, descriptorIndex := 6, attributes := #[] }, { accessFlags := 10, nameIndex := 17, descriptorIndex := 12, attributes := #[] }, { accessFlags := 9, nameIndex := 21, descriptorIndex := 22, attributes := #[] }] 49 2 #[] #[])
  fields := #[]
  methods := #[k1m0, k1m1, k1m2]
  instanceTypes := #[]
  staticTypes := #[]
  resolved := Array.replicate 25 none
  statics := none }

def pool2 : Array CpInfo := pool [(10, .class_ 12), (1, u "com/example/spurion/spurion/model/Lexer"), (2, .class_ 17), (1, u "java/lang/Object"), (2, u "[Ljava/lang/String;"), (2, u "symbolsFrom"), (0, u "[[Ljava/lang/String;"), (4, u "names"), (2, u "nameHashes"), (0, u "[I"), (2, u "index"), (0, u "I"), (2, u "diagram"), (3, u "Lcom/example/spurion/spurion/model/Position$Diagram;"), (2, u "line"), (5, u "column"), (4, u "end"), (0, u "Ljava/lang/String;"), (9, u "text"), (169, u "isNameStart"), (0, u "(I)Z"), (9, u "KEYWORDS"), (0, u "Ljava/util/Set;"), (23, u "NO_SYMBOLS"), (6, u "JAVA_ONLY"), (0, u "Ljava/util/Map;"), (36, u "nameCount"), (89, u "BYTE_ORDER_MARK"), (1, u "SYMBOL_STARTS")] 52

def k2c0 : Code := { maxStack := 2, maxLocals := 1, code := prog_131_method_15_code, exceptionTable := #[], attributes := #[] }
def k2m0 : Method := { name := "isNameStart", desc := "(I)Z", sig := { parameters := [.int], returnType := some .boolean }, accessFlags := 8, code := some k2c0 }
/-- com/example/spurion/spurion/model/Lexer -/
def k2 : Class := { plain "com/example/spurion/spurion/model/Lexer" (some 0) with
  accessFlags := 49
  interfaces := #[]
  cf := some (fileOf pool2 10 #[] #[{ accessFlags := 8, nameIndex := 239, descriptorIndex := 240, attributes := #[] }] 49 15 #[] #[{ accessFlags := 26, nameIndex := 250, descriptorIndex := 251, attributes := #[] }, { accessFlags := 26, nameIndex := 282, descriptorIndex := 283, attributes := #[] }, { accessFlags := 26, nameIndex := 410, descriptorIndex := 37, attributes := #[] }, { accessFlags := 26, nameIndex := 412, descriptorIndex := 37, attributes := #[] }, { accessFlags := 26, nameIndex := 275, descriptorIndex := 20, attributes := #[] }, { accessFlags := 18, nameIndex := 69, descriptorIndex := 33, attributes := #[] }, { accessFlags := 18, nameIndex := 23, descriptorIndex := 24, attributes := #[] }, { accessFlags := 2, nameIndex := 29, descriptorIndex := 20, attributes := #[] }, { accessFlags := 2, nameIndex := 32, descriptorIndex := 33, attributes := #[] }, { accessFlags := 2, nameIndex := 320, descriptorIndex := 37, attributes := #[] }, { accessFlags := 18, nameIndex := 40, descriptorIndex := 44, attributes := #[] }, { accessFlags := 18, nameIndex := 58, descriptorIndex := 59, attributes := #[] }, { accessFlags := 2, nameIndex := 36, descriptorIndex := 37, attributes := #[] }, { accessFlags := 2, nameIndex := 47, descriptorIndex := 37, attributes := #[] }, { accessFlags := 2, nameIndex := 53, descriptorIndex := 37, attributes := #[] }])
  fields := #[{ name := "KEYWORDS", type := (.object "java/util/Set"), accessFlags := 26, slot := 0, constantValue := 0 }, { name := "JAVA_ONLY", type := (.object "java/util/Map"), accessFlags := 26, slot := 1, constantValue := 0 }, { name := "BYTE_ORDER_MARK", type := .int, accessFlags := 26, slot := 2, constantValue := 0 }, { name := "SYMBOL_STARTS", type := .int, accessFlags := 26, slot := 3, constantValue := 0 }, { name := "NO_SYMBOLS", type := (.array (.object "java/lang/String")), accessFlags := 26, slot := 4, constantValue := 0 }, { name := "text", type := (.array .int), accessFlags := 18, slot := 0, constantValue := 0 }, { name := "symbolsFrom", type := (.array (.array (.object "java/lang/String"))), accessFlags := 18, slot := 1, constantValue := 0 }, { name := "names", type := (.array (.object "java/lang/String")), accessFlags := 2, slot := 2, constantValue := 0 }, { name := "nameHashes", type := (.array .int), accessFlags := 2, slot := 3, constantValue := 0 }, { name := "nameCount", type := .int, accessFlags := 2, slot := 4, constantValue := 0 }, { name := "diagram", type := (.object "com/example/spurion/spurion/model/Position$Diagram"), accessFlags := 18, slot := 5, constantValue := 0 }, { name := "end", type := (.object "java/lang/String"), accessFlags := 18, slot := 6, constantValue := 0 }, { name := "index", type := .int, accessFlags := 2, slot := 7, constantValue := 0 }, { name := "line", type := .int, accessFlags := 2, slot := 8, constantValue := 0 }, { name := "column", type := .int, accessFlags := 2, slot := 9, constantValue := 0 }]
  methods := #[k2m0]
  instanceTypes := #[(.array .int), (.array (.array (.object "java/lang/String"))), (.array (.object "java/lang/String")), (.array .int), .int, (.object "com/example/spurion/spurion/model/Position$Diagram"), (.object "java/lang/String"), .int, .int, .int]
  staticTypes := #[(.object "java/util/Set"), (.object "java/util/Map"), .int, .int, (.array (.object "java/lang/String"))]
  resolved := Array.replicate 465 none
  statics := none }

def pool3 : Array CpInfo := pool [(1, u "java/lang/Cloneable"), (0, .class_ 1), (0, u "java/lang/Object"), (0, .class_ 3)] 3

/-- java/lang/Cloneable -/
def k3 : Class := { plain "java/lang/Cloneable" (some 0) with
  accessFlags := 1537
  interfaces := #[]
  cf := some (fileOf pool3 2 #[] #[] 1537 4 #[] #[])
  fields := #[]
  methods := #[]
  instanceTypes := #[]
  staticTypes := #[]
  resolved := Array.replicate 8 none
  statics := none }

def pool4 : Array CpInfo := pool [(1, u "java/io/Serializable"), (0, .class_ 1), (0, u "java/lang/Object"), (0, .class_ 3)] 3

/-- java/io/Serializable -/
def k4 : Class := { plain "java/io/Serializable" (some 0) with
  accessFlags := 1537
  interfaces := #[]
  cf := some (fileOf pool4 2 #[] #[] 1537 4 #[] #[])
  fields := #[]
  methods := #[]
  instanceTypes := #[]
  staticTypes := #[]
  resolved := Array.replicate 8 none
  statics := none }

/-- the primitive byte -/
def k5 : Class := { plain "byte" none with kind := .primitive 'B', accessFlags := 0x411 }
/-- [B -/
def k6 : Class := { plain "[B" (some 0) with kind := .array 5 .byte, interfaces := #[3, 4], accessFlags := 1041 }

/-- the primitive int -/
def k7 : Class := { plain "int" none with kind := .primitive 'I', accessFlags := 0x411 }
/-- [I -/
def k8 : Class := { plain "[I" (some 0) with kind := .array 7 .int, interfaces := #[3, 4], accessFlags := 1041 }

def heap : Heap := #[]
def classes : Array Class := #[k0, k1, k2, k3, k4, k5, k6, k7, k8]
def interned : List (Array UInt16 × Addr) := []
def slotsUsed : Nat := 0
def theMethod : MethodId := ⟨1, 2⟩
def args0 : Array Value := #[.int 65, .int 1]
def aboutOver (below : List Frame) : State where
  vm := { classes := classes, interned := interned.toArray }
  heap := heap
  slotsUsed := slotsUsed
  threads := #[{ frames := .invoking theMethod args0 :: below }]
def below0 : List Frame := [.native { method := ⟨0, 0⟩, args := #[] }]
def about1 : State := aboutOver below0
def p0 : Program := .bare "" "" ""
def e0 : Env := launch0.env 0 0 0
theorem w_frames : about1.frames = Frame.invoking theMethod args0 :: below0 := rfl
set_option maxRecDepth 65536 in
theorem w_args : argsFit about1.vm theMethod args0 = true := by decide +kernel
set_option maxRecDepth 65536 in
theorem w_heap : heapFits about1 = true := by decide +kernel
set_option maxRecDepth 65536 in
theorem w_runnable : about1.curStatus? = some .runnable := by decide +kernel
set_option maxRecDepth 65536 in
theorem w_alone : about1.alone = true := by decide +kernel
set_option maxRecDepth 65536 in
theorem w_named : about1.methodNamed? x = some theMethod := by decide +kernel
set_option maxRecDepth 65536 in
theorem w_hears : about1.hears theMethod below0 = true := by decide +kernel
set_option maxRecDepth 65536 in
theorem w_ripe : about1.ripe theMethod args0 below0 = true := by decide +kernel
theorem w_running : about1.status = .running := rfl
set_option maxRecDepth 65536 in
theorem w_room : about1.hasRoom e0.platform room_1 = true :=
  launch0.hasRoom_least _ room_1 (by decide +kernel) (by decide +kernel) (by decide +kernel) (by decide +kernel) (by decide +kernel) (by decide +kernel)
theorem allAtoms_all (ts : List Jvm.Cond) (a : Array Jvm.Value) (st : Jvm.State) : (allAtoms ts).before a st = ts.all (fun c => c.before a st) := by
  induction ts with
  | nil => rfl
  | cons c t ih =>
    show (Jvm.Cond.and c (allAtoms t)).before a st = _
    rw [Jvm.Cond.before_and, ih, List.all_cons]
def words1 : List Jvm.Cond := Jvm.Cond.code x code maxLocals ret :: tables_1
/-- a 'code' word, met by the world's own term for the bytes: nothing is compared byte by byte -/
theorem code_word {y : MethodName} {bytes : ByteArray} {mx : Nat} {rt : Option FieldType} {a : Array Value} {s : State} {m : MethodId} {meth : Method} {c : Code} (h1 : s.methodNamed? y = some m) (h2 : s.vm.method? m = some meth) (h3 : meth.code = some c) (h4 : c.code = bytes)
    (h5 : (c.maxLocals == mx && c.exceptionTable.isEmpty && decide (c.maxStack ≤ mostOperands) && decide (meth.sig.returnType = rt) && !meth.locks && decide (parseMethodDescriptor y.desc = some meth.sig)) = true) : (Jvm.Cond.code y bytes mx rt).before a s = true := by
  simp only [Bool.and_eq_true, beq_iff_eq, Bool.not_eq_true', decide_eq_true_eq] at h5
  obtain ⟨⟨⟨⟨⟨g1, g2⟩, g3⟩, g4⟩, g5⟩, g6⟩ := h5
  simp [Cond.before, Cond.holds, Cond.value, h1, h2, h3, h4, g1, g2, g3, g4, g5, g6]
def isCode : Jvm.Cond → Bool
  | .code _ _ _ _ => true
  | _ => false
theorem all_split {L : List Jvm.Cond} {P : Jvm.Cond → Bool} (h1 : L.all (fun c => isCode c || P c) = true) (h2 : ∀ c ∈ L.filter isCode, P c = true) : L.all P = true := by
  refine List.all_eq_true.mpr fun c hc => ?_
  have h := List.all_eq_true.mp h1 c hc
  rcases Bool.eq_false_or_eq_true (isCode c) with hi | hi
  · exact h2 c (List.mem_filter.mpr ⟨hc, hi⟩)
  · simpa [hi] using h
set_option maxRecDepth 65536 in
theorem w_c0 : (Jvm.Cond.code x code maxLocals ret).before args0 about1 = true := code_word (m := ⟨1, 2⟩) (meth := k1m2) (c := k1c2) (by decide +kernel) rfl rfl rfl (by decide +kernel)
set_option maxRecDepth 65536 in
theorem w_c1 : (Jvm.Cond.code ({ cls := "com/example/spurion/spurion/model/Lexer", name := "isNameStart", desc := "(I)Z" } : Jvm.MethodName) prog_131_method_15_code (1 : Nat) (Option.some Jvm.ClassFile.FieldType.boolean)).before args0 about1 = true := code_word (m := ⟨2, 0⟩) (meth := k2m0) (c := k2c0) (by decide +kernel) rfl rfl rfl (by decide +kernel)
set_option maxRecDepth 65536 in
theorem w_c2 : (Jvm.Cond.code ({ cls := "com/example/spurion/spurion/model/LexerIsNameStartPinLaw", name := "reference", desc := "(I)Z" } : Jvm.MethodName) method_2_code (4 : Nat) (Option.some Jvm.ClassFile.FieldType.boolean)).before args0 about1 = true := code_word (m := ⟨1, 1⟩) (meth := k1m1) (c := k1c1) (by decide +kernel) rfl rfl rfl (by decide +kernel)
def codes1 : List Jvm.Cond := [Jvm.Cond.code x code maxLocals ret, Jvm.Cond.code ({ cls := "com/example/spurion/spurion/model/Lexer", name := "isNameStart", desc := "(I)Z" } : Jvm.MethodName) prog_131_method_15_code (1 : Nat) (Option.some Jvm.ClassFile.FieldType.boolean), Jvm.Cond.code ({ cls := "com/example/spurion/spurion/model/LexerIsNameStartPinLaw", name := "reference", desc := "(I)Z" } : Jvm.MethodName) method_2_code (4 : Nat) (Option.some Jvm.ClassFile.FieldType.boolean)]
set_option maxRecDepth 65536 in
theorem codes_eq : words1.filter isCode = codes1 := rfl
theorem w_codes : ∀ c ∈ words1.filter isCode, c.before args0 about1 = true := by
  rw [codes_eq]
  intro c hc
  simp only [codes1, List.mem_cons, List.not_mem_nil, or_false] at hc
  rcases hc with rfl | rfl | rfl
  · exact w_c0
  · exact w_c1
  · exact w_c2
set_option maxRecDepth 65536 in
theorem w_t1 : words1.all (fun c => isCode c || c.before args0 about1) = true := by decide +kernel
theorem w_tables : (allAtoms (Jvm.Cond.code x code maxLocals ret :: tables_1)).before args0 about1 = true := by
  rw [allAtoms_all]
  show words1.all (fun c => c.before args0 about1) = true
  refine all_split ?_ w_codes
  rw [w_t1]
set_option maxRecDepth 65536 in
theorem w_case : (Jvm.Cond.and given_1 narrow_1).before args0 about1 = true := by decide +kernel
theorem w_applies : (headSpec (Jvm.Cond.code x code maxLocals ret :: tables_1) room_1).applies x e0.platform about1 = true :=
  (Spec.applies_iff w_frames).mpr ⟨w_running, w_runnable, w_alone, w_named, w_hears, w_ripe, w_room, w_tables⟩
theorem atStart : AtStart classFile x code maxLocals ret World_1 tables_1 room_1 Calls_1 rest_1 Pre_1 launch0 p0 e0 about1 theMethod args0 below0 :=
  ⟨lists_1, trivial, launch0.admits_env _ _ _, launch0.least_env, fairChoices_fair.cas, fairChoices_fair.clock, w_frames, w_args, w_heap, w_applies, trivial, trivial, w_case⟩
end start1
theorem witness_1 : WitnessClaimed_1 := ⟨start1.p0, start1.e0, start1.about1, start1.theMethod, start1.args0, start1.below0, start1.atStart⟩
end Jvm.Pilot.@@N@@
