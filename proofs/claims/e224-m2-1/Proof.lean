import JvmDerived
import JvmDerived.Pilot.@@N@@Statement
import JvmDerived.Pilot.@@N@@Code
set_option linter.unusedVariables false
set_option linter.unusedSimpArgs false
@@BLOCK:NumsL.lean.txt@@
namespace Jvm.Pilot.@@N@@
open Jvm Jvm.ClassFile Sem Op Lib Jvm.Free Jvm.Stand Jvm.LawKit Jvm.RoadKit Bundle Jvm.Pilot.@@N@@.Jvm.D
theorem d1_0 : decode prog_162_method_2_code 0 = .ok (.iload_n 0, 1) := by decide +kernel
theorem d1_1 : decode prog_162_method_2_code 1 = .ok (.bipush 9, 2) := by decide +kernel
theorem d1_3 : decode prog_162_method_2_code 3 = .ok (.if_icmp .eq 51, 3) := by decide +kernel
theorem d1_6 : decode prog_162_method_2_code 6 = .ok (.iload_n 0, 1) := by decide +kernel
theorem d1_7 : decode prog_162_method_2_code 7 = .ok (.bipush 10, 2) := by decide +kernel
theorem d1_9 : decode prog_162_method_2_code 9 = .ok (.if_icmp .eq 45, 3) := by decide +kernel
theorem d1_12 : decode prog_162_method_2_code 12 = .ok (.iload_n 0, 1) := by decide +kernel
theorem d1_13 : decode prog_162_method_2_code 13 = .ok (.bipush 13, 2) := by decide +kernel
theorem d1_15 : decode prog_162_method_2_code 15 = .ok (.if_icmp .eq 39, 3) := by decide +kernel
theorem d1_18 : decode prog_162_method_2_code 18 = .ok (.iload_n 0, 1) := by decide +kernel
theorem d1_19 : decode prog_162_method_2_code 19 = .ok (.bipush 32, 2) := by decide +kernel
theorem d1_21 : decode prog_162_method_2_code 21 = .ok (.if_icmp .lt 9, 3) := by decide +kernel
theorem d1_24 : decode prog_162_method_2_code 24 = .ok (.iload_n 0, 1) := by decide +kernel
theorem d1_25 : decode prog_162_method_2_code 25 = .ok (.ldc 7, 2) := by decide +kernel
theorem d1_27 : decode prog_162_method_2_code 27 = .ok (.if_icmp .le 27, 3) := by decide +kernel
theorem d1_30 : decode prog_162_method_2_code 30 = .ok (.iload_n 0, 1) := by decide +kernel
theorem d1_31 : decode prog_162_method_2_code 31 = .ok (.ldc 8, 2) := by decide +kernel
theorem d1_33 : decode prog_162_method_2_code 33 = .ok (.if_icmp .lt 9, 3) := by decide +kernel
theorem d1_36 : decode prog_162_method_2_code 36 = .ok (.iload_n 0, 1) := by decide +kernel
theorem d1_37 : decode prog_162_method_2_code 37 = .ok (.ldc 9, 2) := by decide +kernel
theorem d1_39 : decode prog_162_method_2_code 39 = .ok (.if_icmp .le 15, 3) := by decide +kernel
theorem d1_42 : decode prog_162_method_2_code 42 = .ok (.iload_n 0, 1) := by decide +kernel
theorem d1_43 : decode prog_162_method_2_code 43 = .ok (.ldc 10, 2) := by decide +kernel
theorem d1_45 : decode prog_162_method_2_code 45 = .ok (.if_icmp .lt 13, 3) := by decide +kernel
theorem d1_48 : decode prog_162_method_2_code 48 = .ok (.iload_n 0, 1) := by decide +kernel
theorem d1_49 : decode prog_162_method_2_code 49 = .ok (.ldc 11, 2) := by decide +kernel
theorem d1_51 : decode prog_162_method_2_code 51 = .ok (.if_icmp .gt 7, 3) := by decide +kernel
theorem d1_54 : decode prog_162_method_2_code 54 = .ok (.iconst 1, 1) := by decide +kernel
theorem d1_55 : decode prog_162_method_2_code 55 = .ok (.goto 4, 3) := by decide +kernel
theorem d1_58 : decode prog_162_method_2_code 58 = .ok (.iconst 0, 1) := by decide +kernel
theorem d1_59 : decode prog_162_method_2_code 59 = .ok (.ireturn, 1) := by decide +kernel
def v1_58 (x : Int32) : Int32 := (0 : Int32)
set_option maxRecDepth 65536 in
set_option maxHeartbeats 40000000 in
theorem b1_58 {p : Program} {l : Launch} {e : Env} {R : Room} {s : State} {m : MethodId} {args : Array Value} {below : List Frame} {meth : Method} {c : Code} {T : State} {locs : List Loc} {cells slots : Nat} {Z : State} {a0 : Array Value} (X : Stand p l e R s m args below meth c T locs cells slots) (hx : p.tables.exec = Jvm.exec) (hZ : Z.Warmed39 s.vm) (hw : ∀ d ∈ tables_1, d.before a0 Z = true) (hby : c.code = prog_162_method_2_code) (hown : s.vm.findClass "com/example/libxdm/libxdm/model/XmlNames" = some m.cls) (hret : meth.sig.returnType = some .boolean) (x w : Int32) (hv : v1_58 x = w) {fs : List Frame} (hr : ∀ (f : JFrame) (acts : List Action), f.method = m → f.locked = none → f.entered = [] → (doReturn e (T.setTop f) acts (some (.int w))).1 = T.setFrames fs) : Steps p.tables e below (T.setTop (mkF m 58 #[.val (.int x)] [])) (T.setFrames fs) := by
  change (0 : Int32) = w at hv
  show Steps p.tables e below (T.setTop (mkF m 58 #[.val (.int x)] [])) _
  refine XS.iconst X.here hx rfl (hb hby d1_58) ?_
  show Steps p.tables e below (T.setTop (mkF m 59 #[.val (.int x)] [(.int (0 : Int32))])) _
  subst hv
  exact retN X hx (t := .boolean) hret (by simp) (hb hby d1_59) hr
def v1_54 (x : Int32) : Int32 := (1 : Int32)
set_option maxRecDepth 65536 in
set_option maxHeartbeats 40000000 in
theorem b1_54 {p : Program} {l : Launch} {e : Env} {R : Room} {s : State} {m : MethodId} {args : Array Value} {below : List Frame} {meth : Method} {c : Code} {T : State} {locs : List Loc} {cells slots : Nat} {Z : State} {a0 : Array Value} (X : Stand p l e R s m args below meth c T locs cells slots) (hx : p.tables.exec = Jvm.exec) (hZ : Z.Warmed39 s.vm) (hw : ∀ d ∈ tables_1, d.before a0 Z = true) (hby : c.code = prog_162_method_2_code) (hown : s.vm.findClass "com/example/libxdm/libxdm/model/XmlNames" = some m.cls) (hret : meth.sig.returnType = some .boolean) (x w : Int32) (hv : v1_54 x = w) {fs : List Frame} (hr : ∀ (f : JFrame) (acts : List Action), f.method = m → f.locked = none → f.entered = [] → (doReturn e (T.setTop f) acts (some (.int w))).1 = T.setFrames fs) : Steps p.tables e below (T.setTop (mkF m 54 #[.val (.int x)] [])) (T.setFrames fs) := by
  change (1 : Int32) = w at hv
  show Steps p.tables e below (T.setTop (mkF m 54 #[.val (.int x)] [])) _
  refine XS.iconst X.here hx rfl (hb hby d1_54) ?_
  show Steps p.tables e below (T.setTop (mkF m 55 #[.val (.int x)] [(.int (1 : Int32))])) _
  refine XS.goto X.here hx rfl (pc0 := 55) (pc' := 59) rfl (hb hby d1_55) (by decide) (by decide) ?_
  show Steps p.tables e below (T.setTop (mkF m 59 #[.val (.int x)] [(.int (1 : Int32))])) _
  subst hv
  exact retN X hx (t := .boolean) hret (by simp) (hb hby d1_59) hr
def v1_48 (x : Int32) : Int32 := (if (1114111 : Int32) < x then v1_58 x else v1_54 x)
set_option maxRecDepth 65536 in
set_option maxHeartbeats 40000000 in
theorem b1_48 {p : Program} {l : Launch} {e : Env} {R : Room} {s : State} {m : MethodId} {args : Array Value} {below : List Frame} {meth : Method} {c : Code} {T : State} {locs : List Loc} {cells slots : Nat} {Z : State} {a0 : Array Value} (X : Stand p l e R s m args below meth c T locs cells slots) (hx : p.tables.exec = Jvm.exec) (hZ : Z.Warmed39 s.vm) (hw : ∀ d ∈ tables_1, d.before a0 Z = true) (hby : c.code = prog_162_method_2_code) (hown : s.vm.findClass "com/example/libxdm/libxdm/model/XmlNames" = some m.cls) (hret : meth.sig.returnType = some .boolean) (x w : Int32) (hv : v1_48 x = w) {fs : List Frame} (hr : ∀ (f : JFrame) (acts : List Action), f.method = m → f.locked = none → f.entered = [] → (doReturn e (T.setTop f) acts (some (.int w))).1 = T.setFrames fs) : Steps p.tables e below (T.setTop (mkF m 48 #[.val (.int x)] [])) (T.setFrames fs) := by
  change (if (1114111 : Int32) < x then v1_58 x else v1_54 x) = w at hv
  show Steps p.tables e below (T.setTop (mkF m 48 #[.val (.int x)] [])) _
  refine XS.iloadN X.here hx rfl (hb hby d1_48) rfl ?_
  show Steps p.tables e below (T.setTop (mkF m 49 #[.val (.int x)] [(.int x)])) _
  refine X.ldcI hx hown (v := (1114111 : Int32)) (mvT hZ (hw _ (List.mem_of_getElem? (i := 24) rfl))) rfl (hb hby d1_49) ?_
  show Steps p.tables e below (T.setTop (mkF m 51 #[.val (.int x)] [(.int (1114111 : Int32)), (.int x)])) _
  by_cases hc0 : (1114111 : Int32) < x
  · rw [if_pos hc0] at hv
    refine XS.icmpYes X.here hx rfl (pc0 := 51) (pc' := 58) rfl (hb hby d1_51) rfl (tlt hc0).2.2.1 (by decide) (by decide) ?_
    exact b1_58 X hx hZ hw hby hown hret x w hv hr
  · rw [if_neg hc0] at hv
    refine XS.icmpNo X.here hx rfl (hb hby d1_51) rfl (flt hc0).2.2.1 ?_
    exact b1_54 X hx hZ hw hby hown hret x w hv hr
def v1_42 (x : Int32) : Int32 := (if x < (65536 : Int32) then v1_58 x else v1_48 x)
set_option maxRecDepth 65536 in
set_option maxHeartbeats 40000000 in
theorem b1_42 {p : Program} {l : Launch} {e : Env} {R : Room} {s : State} {m : MethodId} {args : Array Value} {below : List Frame} {meth : Method} {c : Code} {T : State} {locs : List Loc} {cells slots : Nat} {Z : State} {a0 : Array Value} (X : Stand p l e R s m args below meth c T locs cells slots) (hx : p.tables.exec = Jvm.exec) (hZ : Z.Warmed39 s.vm) (hw : ∀ d ∈ tables_1, d.before a0 Z = true) (hby : c.code = prog_162_method_2_code) (hown : s.vm.findClass "com/example/libxdm/libxdm/model/XmlNames" = some m.cls) (hret : meth.sig.returnType = some .boolean) (x w : Int32) (hv : v1_42 x = w) {fs : List Frame} (hr : ∀ (f : JFrame) (acts : List Action), f.method = m → f.locked = none → f.entered = [] → (doReturn e (T.setTop f) acts (some (.int w))).1 = T.setFrames fs) : Steps p.tables e below (T.setTop (mkF m 42 #[.val (.int x)] [])) (T.setFrames fs) := by
  change (if x < (65536 : Int32) then v1_58 x else v1_48 x) = w at hv
  show Steps p.tables e below (T.setTop (mkF m 42 #[.val (.int x)] [])) _
  refine XS.iloadN X.here hx rfl (hb hby d1_42) rfl ?_
  show Steps p.tables e below (T.setTop (mkF m 43 #[.val (.int x)] [(.int x)])) _
  refine X.ldcI hx hown (v := (65536 : Int32)) (mvT hZ (hw _ (List.mem_of_getElem? (i := 17) rfl))) rfl (hb hby d1_43) ?_
  show Steps p.tables e below (T.setTop (mkF m 45 #[.val (.int x)] [(.int (65536 : Int32)), (.int x)])) _
  by_cases hc0 : x < (65536 : Int32)
  · rw [if_pos hc0] at hv
    refine XS.icmpYes X.here hx rfl (pc0 := 45) (pc' := 58) rfl (hb hby d1_45) rfl (tlt hc0).1 (by decide) (by decide) ?_
    exact b1_58 X hx hZ hw hby hown hret x w hv hr
  · rw [if_neg hc0] at hv
    refine XS.icmpNo X.here hx rfl (hb hby d1_45) rfl (flt hc0).1 ?_
    exact b1_48 X hx hZ hw hby hown hret x w hv hr
def v1_36 (x : Int32) : Int32 := (if (65533 : Int32) < x then v1_42 x else v1_54 x)
set_option maxRecDepth 65536 in
set_option maxHeartbeats 40000000 in
theorem b1_36 {p : Program} {l : Launch} {e : Env} {R : Room} {s : State} {m : MethodId} {args : Array Value} {below : List Frame} {meth : Method} {c : Code} {T : State} {locs : List Loc} {cells slots : Nat} {Z : State} {a0 : Array Value} (X : Stand p l e R s m args below meth c T locs cells slots) (hx : p.tables.exec = Jvm.exec) (hZ : Z.Warmed39 s.vm) (hw : ∀ d ∈ tables_1, d.before a0 Z = true) (hby : c.code = prog_162_method_2_code) (hown : s.vm.findClass "com/example/libxdm/libxdm/model/XmlNames" = some m.cls) (hret : meth.sig.returnType = some .boolean) (x w : Int32) (hv : v1_36 x = w) {fs : List Frame} (hr : ∀ (f : JFrame) (acts : List Action), f.method = m → f.locked = none → f.entered = [] → (doReturn e (T.setTop f) acts (some (.int w))).1 = T.setFrames fs) : Steps p.tables e below (T.setTop (mkF m 36 #[.val (.int x)] [])) (T.setFrames fs) := by
  change (if (65533 : Int32) < x then v1_42 x else v1_54 x) = w at hv
  show Steps p.tables e below (T.setTop (mkF m 36 #[.val (.int x)] [])) _
  refine XS.iloadN X.here hx rfl (hb hby d1_36) rfl ?_
  show Steps p.tables e below (T.setTop (mkF m 37 #[.val (.int x)] [(.int x)])) _
  refine X.ldcI hx hown (v := (65533 : Int32)) (mvT hZ (hw _ (List.mem_of_getElem? (i := 23) rfl))) rfl (hb hby d1_37) ?_
  show Steps p.tables e below (T.setTop (mkF m 39 #[.val (.int x)] [(.int (65533 : Int32)), (.int x)])) _
  by_cases hc0 : (65533 : Int32) < x
  · rw [if_pos hc0] at hv
    refine XS.icmpNo X.here hx rfl (hb hby d1_39) rfl (tlt hc0).2.2.2 ?_
    exact b1_42 X hx hZ hw hby hown hret x w hv hr
  · rw [if_neg hc0] at hv
    refine XS.icmpYes X.here hx rfl (pc0 := 39) (pc' := 54) rfl (hb hby d1_39) rfl (flt hc0).2.2.2 (by decide) (by decide) ?_
    exact b1_54 X hx hZ hw hby hown hret x w hv hr
def v1_30 (x : Int32) : Int32 := (if x < (57344 : Int32) then v1_42 x else v1_36 x)
set_option maxRecDepth 65536 in
set_option maxHeartbeats 40000000 in
theorem b1_30 {p : Program} {l : Launch} {e : Env} {R : Room} {s : State} {m : MethodId} {args : Array Value} {below : List Frame} {meth : Method} {c : Code} {T : State} {locs : List Loc} {cells slots : Nat} {Z : State} {a0 : Array Value} (X : Stand p l e R s m args below meth c T locs cells slots) (hx : p.tables.exec = Jvm.exec) (hZ : Z.Warmed39 s.vm) (hw : ∀ d ∈ tables_1, d.before a0 Z = true) (hby : c.code = prog_162_method_2_code) (hown : s.vm.findClass "com/example/libxdm/libxdm/model/XmlNames" = some m.cls) (hret : meth.sig.returnType = some .boolean) (x w : Int32) (hv : v1_30 x = w) {fs : List Frame} (hr : ∀ (f : JFrame) (acts : List Action), f.method = m → f.locked = none → f.entered = [] → (doReturn e (T.setTop f) acts (some (.int w))).1 = T.setFrames fs) : Steps p.tables e below (T.setTop (mkF m 30 #[.val (.int x)] [])) (T.setFrames fs) := by
  change (if x < (57344 : Int32) then v1_42 x else v1_36 x) = w at hv
  show Steps p.tables e below (T.setTop (mkF m 30 #[.val (.int x)] [])) _
  refine XS.iloadN X.here hx rfl (hb hby d1_30) rfl ?_
  show Steps p.tables e below (T.setTop (mkF m 31 #[.val (.int x)] [(.int x)])) _
  refine X.ldcI hx hown (v := (57344 : Int32)) (mvT hZ (hw _ (List.mem_of_getElem? (i := 16) rfl))) rfl (hb hby d1_31) ?_
  show Steps p.tables e below (T.setTop (mkF m 33 #[.val (.int x)] [(.int (57344 : Int32)), (.int x)])) _
  by_cases hc0 : x < (57344 : Int32)
  · rw [if_pos hc0] at hv
    refine XS.icmpYes X.here hx rfl (pc0 := 33) (pc' := 42) rfl (hb hby d1_33) rfl (tlt hc0).1 (by decide) (by decide) ?_
    exact b1_42 X hx hZ hw hby hown hret x w hv hr
  · rw [if_neg hc0] at hv
    refine XS.icmpNo X.here hx rfl (hb hby d1_33) rfl (flt hc0).1 ?_
    exact b1_36 X hx hZ hw hby hown hret x w hv hr
def v1_24 (x : Int32) : Int32 := (if (55295 : Int32) < x then v1_30 x else v1_54 x)
set_option maxRecDepth 65536 in
set_option maxHeartbeats 40000000 in
theorem b1_24 {p : Program} {l : Launch} {e : Env} {R : Room} {s : State} {m : MethodId} {args : Array Value} {below : List Frame} {meth : Method} {c : Code} {T : State} {locs : List Loc} {cells slots : Nat} {Z : State} {a0 : Array Value} (X : Stand p l e R s m args below meth c T locs cells slots) (hx : p.tables.exec = Jvm.exec) (hZ : Z.Warmed39 s.vm) (hw : ∀ d ∈ tables_1, d.before a0 Z = true) (hby : c.code = prog_162_method_2_code) (hown : s.vm.findClass "com/example/libxdm/libxdm/model/XmlNames" = some m.cls) (hret : meth.sig.returnType = some .boolean) (x w : Int32) (hv : v1_24 x = w) {fs : List Frame} (hr : ∀ (f : JFrame) (acts : List Action), f.method = m → f.locked = none → f.entered = [] → (doReturn e (T.setTop f) acts (some (.int w))).1 = T.setFrames fs) : Steps p.tables e below (T.setTop (mkF m 24 #[.val (.int x)] [])) (T.setFrames fs) := by
  change (if (55295 : Int32) < x then v1_30 x else v1_54 x) = w at hv
  show Steps p.tables e below (T.setTop (mkF m 24 #[.val (.int x)] [])) _
  refine XS.iloadN X.here hx rfl (hb hby d1_24) rfl ?_
  show Steps p.tables e below (T.setTop (mkF m 25 #[.val (.int x)] [(.int x)])) _
  refine X.ldcI hx hown (v := (55295 : Int32)) (mvT hZ (hw _ (List.mem_of_getElem? (i := 22) rfl))) rfl (hb hby d1_25) ?_
  show Steps p.tables e below (T.setTop (mkF m 27 #[.val (.int x)] [(.int (55295 : Int32)), (.int x)])) _
  by_cases hc0 : (55295 : Int32) < x
  · rw [if_pos hc0] at hv
    refine XS.icmpNo X.here hx rfl (hb hby d1_27) rfl (tlt hc0).2.2.2 ?_
    exact b1_30 X hx hZ hw hby hown hret x w hv hr
  · rw [if_neg hc0] at hv
    refine XS.icmpYes X.here hx rfl (pc0 := 27) (pc' := 54) rfl (hb hby d1_27) rfl (flt hc0).2.2.2 (by decide) (by decide) ?_
    exact b1_54 X hx hZ hw hby hown hret x w hv hr
def v1_18 (x : Int32) : Int32 := (if x < (32 : Int32) then v1_30 x else v1_24 x)
set_option maxRecDepth 65536 in
set_option maxHeartbeats 40000000 in
theorem b1_18 {p : Program} {l : Launch} {e : Env} {R : Room} {s : State} {m : MethodId} {args : Array Value} {below : List Frame} {meth : Method} {c : Code} {T : State} {locs : List Loc} {cells slots : Nat} {Z : State} {a0 : Array Value} (X : Stand p l e R s m args below meth c T locs cells slots) (hx : p.tables.exec = Jvm.exec) (hZ : Z.Warmed39 s.vm) (hw : ∀ d ∈ tables_1, d.before a0 Z = true) (hby : c.code = prog_162_method_2_code) (hown : s.vm.findClass "com/example/libxdm/libxdm/model/XmlNames" = some m.cls) (hret : meth.sig.returnType = some .boolean) (x w : Int32) (hv : v1_18 x = w) {fs : List Frame} (hr : ∀ (f : JFrame) (acts : List Action), f.method = m → f.locked = none → f.entered = [] → (doReturn e (T.setTop f) acts (some (.int w))).1 = T.setFrames fs) : Steps p.tables e below (T.setTop (mkF m 18 #[.val (.int x)] [])) (T.setFrames fs) := by
  change (if x < (32 : Int32) then v1_30 x else v1_24 x) = w at hv
  show Steps p.tables e below (T.setTop (mkF m 18 #[.val (.int x)] [])) _
  refine XS.iloadN X.here hx rfl (hb hby d1_18) rfl ?_
  show Steps p.tables e below (T.setTop (mkF m 19 #[.val (.int x)] [(.int x)])) _
  refine XS.bipush X.here hx rfl (hb hby d1_19) ?_
  show Steps p.tables e below (T.setTop (mkF m 21 #[.val (.int x)] [(.int (32 : Int32)), (.int x)])) _
  by_cases hc0 : x < (32 : Int32)
  · rw [if_pos hc0] at hv
    refine XS.icmpYes X.here hx rfl (pc0 := 21) (pc' := 30) rfl (hb hby d1_21) rfl (tlt hc0).1 (by decide) (by decide) ?_
    exact b1_30 X hx hZ hw hby hown hret x w hv hr
  · rw [if_neg hc0] at hv
    refine XS.icmpNo X.here hx rfl (hb hby d1_21) rfl (flt hc0).1 ?_
    exact b1_24 X hx hZ hw hby hown hret x w hv hr
def v1_12 (x : Int32) : Int32 := (if x = (13 : Int32) then v1_54 x else v1_18 x)
set_option maxRecDepth 65536 in
set_option maxHeartbeats 40000000 in
theorem b1_12 {p : Program} {l : Launch} {e : Env} {R : Room} {s : State} {m : MethodId} {args : Array Value} {below : List Frame} {meth : Method} {c : Code} {T : State} {locs : List Loc} {cells slots : Nat} {Z : State} {a0 : Array Value} (X : Stand p l e R s m args below meth c T locs cells slots) (hx : p.tables.exec = Jvm.exec) (hZ : Z.Warmed39 s.vm) (hw : ∀ d ∈ tables_1, d.before a0 Z = true) (hby : c.code = prog_162_method_2_code) (hown : s.vm.findClass "com/example/libxdm/libxdm/model/XmlNames" = some m.cls) (hret : meth.sig.returnType = some .boolean) (x w : Int32) (hv : v1_12 x = w) {fs : List Frame} (hr : ∀ (f : JFrame) (acts : List Action), f.method = m → f.locked = none → f.entered = [] → (doReturn e (T.setTop f) acts (some (.int w))).1 = T.setFrames fs) : Steps p.tables e below (T.setTop (mkF m 12 #[.val (.int x)] [])) (T.setFrames fs) := by
  change (if x = (13 : Int32) then v1_54 x else v1_18 x) = w at hv
  show Steps p.tables e below (T.setTop (mkF m 12 #[.val (.int x)] [])) _
  refine XS.iloadN X.here hx rfl (hb hby d1_12) rfl ?_
  show Steps p.tables e below (T.setTop (mkF m 13 #[.val (.int x)] [(.int x)])) _
  refine XS.bipush X.here hx rfl (hb hby d1_13) ?_
  show Steps p.tables e below (T.setTop (mkF m 15 #[.val (.int x)] [(.int (13 : Int32)), (.int x)])) _
  by_cases hc0 : x = (13 : Int32)
  · rw [if_pos hc0] at hv
    refine XS.icmpYes X.here hx rfl (pc0 := 15) (pc' := 54) rfl (hb hby d1_15) rfl (teq hc0).1 (by decide) (by decide) ?_
    exact b1_54 X hx hZ hw hby hown hret x w hv hr
  · rw [if_neg hc0] at hv
    refine XS.icmpNo X.here hx rfl (hb hby d1_15) rfl (feq hc0).1 ?_
    exact b1_18 X hx hZ hw hby hown hret x w hv hr
def v1_6 (x : Int32) : Int32 := (if x = (10 : Int32) then v1_54 x else v1_12 x)
set_option maxRecDepth 65536 in
set_option maxHeartbeats 40000000 in
theorem b1_6 {p : Program} {l : Launch} {e : Env} {R : Room} {s : State} {m : MethodId} {args : Array Value} {below : List Frame} {meth : Method} {c : Code} {T : State} {locs : List Loc} {cells slots : Nat} {Z : State} {a0 : Array Value} (X : Stand p l e R s m args below meth c T locs cells slots) (hx : p.tables.exec = Jvm.exec) (hZ : Z.Warmed39 s.vm) (hw : ∀ d ∈ tables_1, d.before a0 Z = true) (hby : c.code = prog_162_method_2_code) (hown : s.vm.findClass "com/example/libxdm/libxdm/model/XmlNames" = some m.cls) (hret : meth.sig.returnType = some .boolean) (x w : Int32) (hv : v1_6 x = w) {fs : List Frame} (hr : ∀ (f : JFrame) (acts : List Action), f.method = m → f.locked = none → f.entered = [] → (doReturn e (T.setTop f) acts (some (.int w))).1 = T.setFrames fs) : Steps p.tables e below (T.setTop (mkF m 6 #[.val (.int x)] [])) (T.setFrames fs) := by
  change (if x = (10 : Int32) then v1_54 x else v1_12 x) = w at hv
  show Steps p.tables e below (T.setTop (mkF m 6 #[.val (.int x)] [])) _
  refine XS.iloadN X.here hx rfl (hb hby d1_6) rfl ?_
  show Steps p.tables e below (T.setTop (mkF m 7 #[.val (.int x)] [(.int x)])) _
  refine XS.bipush X.here hx rfl (hb hby d1_7) ?_
  show Steps p.tables e below (T.setTop (mkF m 9 #[.val (.int x)] [(.int (10 : Int32)), (.int x)])) _
  by_cases hc0 : x = (10 : Int32)
  · rw [if_pos hc0] at hv
    refine XS.icmpYes X.here hx rfl (pc0 := 9) (pc' := 54) rfl (hb hby d1_9) rfl (teq hc0).1 (by decide) (by decide) ?_
    exact b1_54 X hx hZ hw hby hown hret x w hv hr
  · rw [if_neg hc0] at hv
    refine XS.icmpNo X.here hx rfl (hb hby d1_9) rfl (feq hc0).1 ?_
    exact b1_12 X hx hZ hw hby hown hret x w hv hr
def v1_0 (x : Int32) : Int32 := (if x = (9 : Int32) then v1_54 x else v1_6 x)
set_option maxRecDepth 65536 in
set_option maxHeartbeats 40000000 in
theorem b1_0 {p : Program} {l : Launch} {e : Env} {R : Room} {s : State} {m : MethodId} {args : Array Value} {below : List Frame} {meth : Method} {c : Code} {T : State} {locs : List Loc} {cells slots : Nat} {Z : State} {a0 : Array Value} (X : Stand p l e R s m args below meth c T locs cells slots) (hx : p.tables.exec = Jvm.exec) (hZ : Z.Warmed39 s.vm) (hw : ∀ d ∈ tables_1, d.before a0 Z = true) (hby : c.code = prog_162_method_2_code) (hown : s.vm.findClass "com/example/libxdm/libxdm/model/XmlNames" = some m.cls) (hret : meth.sig.returnType = some .boolean) (x w : Int32) (hv : v1_0 x = w) {fs : List Frame} (hr : ∀ (f : JFrame) (acts : List Action), f.method = m → f.locked = none → f.entered = [] → (doReturn e (T.setTop f) acts (some (.int w))).1 = T.setFrames fs) : Steps p.tables e below (T.setTop (mkF m 0 #[.val (.int x)] [])) (T.setFrames fs) := by
  change (if x = (9 : Int32) then v1_54 x else v1_6 x) = w at hv
  show Steps p.tables e below (T.setTop (mkF m 0 #[.val (.int x)] [])) _
  refine XS.iloadN X.here hx rfl (hb hby d1_0) rfl ?_
  show Steps p.tables e below (T.setTop (mkF m 1 #[.val (.int x)] [(.int x)])) _
  refine XS.bipush X.here hx rfl (hb hby d1_1) ?_
  show Steps p.tables e below (T.setTop (mkF m 3 #[.val (.int x)] [(.int (9 : Int32)), (.int x)])) _
  by_cases hc0 : x = (9 : Int32)
  · rw [if_pos hc0] at hv
    refine XS.icmpYes X.here hx rfl (pc0 := 3) (pc' := 54) rfl (hb hby d1_3) rfl (teq hc0).1 (by decide) (by decide) ?_
    exact b1_54 X hx hZ hw hby hown hret x w hv hr
  · rw [if_neg hc0] at hv
    refine XS.icmpNo X.here hx rfl (hb hby d1_3) rfl (feq hc0).1 ?_
    exact b1_6 X hx hZ hw hby hown hret x w hv hr
theorem pn_1 : plainName "com/example/libxdm/libxdm/model/XmlNames" = true := by first | (simp [plainName, overriddenIn]; done) | decide +kernel
theorem ef_1 (m : MethodId) (x0 : Int32) : entryFrame m #[(.int x0)] 1 = mkF m 0 #[.val (.int x0)] [] := by first | (simp [entryFrame, mkF, argsToLocals, Value.category]; done) | rfl
def Q1 (Z : State) (p1 : Int32) (h0 : Heap) (n0 : Nat) (v : Option Value) (h : Heap) (L : List Loc) : Prop := v = some (.int (v1_0 p1)) ∧ Fr n0 L ∧ h = h0
set_option maxRecDepth 65536 in
set_option maxHeartbeats 40000000 in
theorem rm1 (l : Launch) (Z : State) (a0 : Array Value) (hw : ∀ d ∈ tables_1, d.before a0 Z = true) (ws : List Jvm.Cond) (p1 : Int32) (h0 : Heap) (n0 : Nat) :
    MetFree l (⟨"com/example/libxdm/libxdm/model/XmlNames", "isCharacter", "(I)Z"⟩ : MethodName) (head1 (Jvm.Cond.code (⟨"com/example/libxdm/libxdm/model/XmlNames", "isCharacter", "(I)Z"⟩ : MethodName) prog_162_method_2_code 1 (some .boolean) :: ws) ({ frames := 0, cells := 0, slots := 0, locals := 0 } : Room)) (fun a U => a = #[(.int p1)] ∧ Z.Warmed39 U.vm ∧ U.heap = h0) (fun _ _ _ _ _ => True) (fun _ U o U' => ∃ v L, o = .returned v ∧ Q1 Z p1 h0 n0 v U'.heap L ∧ FrameEnd U o U' L ({ frames := 0, cells := 0, slots := 0, locals := 0 } : Room).cells ({ frames := 0, cells := 0, slots := 0, locals := 0 } : Room).slots) := by
  refine MetFree.of_bodySF (plainFor_of_name pn_1) hisR ?_
  intro p e s m args below meth c s₁ Bd hml0 hP hK
  obtain ⟨rfl, hZ, hh⟩ := hP
  have hx := Bd.exec
  have hby := Bd.bytes
  have hown : s.vm.findClass "com/example/libxdm/libxdm/model/XmlNames" = some m.cls := findClass_of_methodNamed Bd.named
  have X0 : Stand p l e ({ frames := 0, cells := 0, slots := 0, locals := 0 } : Room) s m #[(.int p1)] below meth c s₁ [] 0 0 := Stand.of_body Bd
  have e0 : s₁.heap = h0 := by rw [← hh, Bd.state]; rfl
  have N0 := Fr.nil n0
  have pre0 : ∀ t, Steps p.tables e below (s₁.setTop (mkF m 0 #[.val (.int p1)] [])) t → Steps p.tables e below (s₁.setTop (entryFrame m #[(.int p1)] 1)) t := fun t k => castTop (ef_1 m p1) k
  obtain ⟨fs, hr, hrun, hended, hW, hsame⟩ := X0.leave (v := some (.int (v1_0 p1))) (fun h => by rw [Bd.returns] at h; cases h)
  refine ⟨_, _, pre0 _ ?_, hrun, hended, _, _, rfl, ?_, ⟨_, rfl⟩, hW, hsame.mono (by decide) (by decide)⟩
  · exact b1_0 X0 hx hZ hw hby hown Bd.returns p1 _ rfl hr
  · show Q1 Z p1 h0 n0 _ s₁.heap _
    rw [e0]
    exact ⟨rfl, N0, rfl⟩
theorem r1_0 (x : Int32) : v1_0 x = (if (x = (9 : Int32)) ∨ (x = (10 : Int32)) then v1_54 x else v1_12 x) := by
  unfold v1_0 v1_6
  by_cases h1 : x = (9 : Int32) <;> by_cases h2 : x = (10 : Int32) <;> simp [h1, h2]
theorem r1_12 (x : Int32) : v1_12 x = (if x = (13 : Int32) then v1_54 x else v1_18 x) := rfl
theorem r1_18 (x : Int32) : v1_18 x = (if (x < (32 : Int32)) ∨ ((55295 : Int32) < x) then v1_30 x else v1_54 x) := by
  unfold v1_18 v1_24
  by_cases h1 : x < (32 : Int32) <;> by_cases h2 : (55295 : Int32) < x <;> simp [h1, h2]
theorem r1_54 (x : Int32) : v1_54 x = (1 : Int32) := rfl
theorem r1_30 (x : Int32) : v1_30 x = (if (x < (57344 : Int32)) ∨ ((65533 : Int32) < x) then v1_42 x else v1_54 x) := by
  unfold v1_30 v1_36
  by_cases h1 : x < (57344 : Int32) <;> by_cases h2 : (65533 : Int32) < x <;> simp [h1, h2]
theorem r1_42 (x : Int32) : v1_42 x = (if (x < (65536 : Int32)) ∨ ((1114111 : Int32) < x) then v1_58 x else v1_54 x) := by
  unfold v1_42 v1_48
  by_cases h1 : x < (65536 : Int32) <;> by_cases h2 : (1114111 : Int32) < x <;> simp [h1, h2]
theorem r1_58 (x : Int32) : v1_58 x = (0 : Int32) := rfl
theorem d2_0 : decode method_2_code 0 = .ok (.iload_n 0, 1) := by decide +kernel
theorem d2_1 : decode method_2_code 1 = .ok (.bipush 9, 2) := by decide +kernel
theorem d2_3 : decode method_2_code 3 = .ok (.if_icmp .eq 15, 3) := by decide +kernel
theorem d2_6 : decode method_2_code 6 = .ok (.iload_n 0, 1) := by decide +kernel
theorem d2_7 : decode method_2_code 7 = .ok (.bipush 10, 2) := by decide +kernel
theorem d2_9 : decode method_2_code 9 = .ok (.if_icmp .eq 9, 3) := by decide +kernel
theorem d2_12 : decode method_2_code 12 = .ok (.iload_n 0, 1) := by decide +kernel
theorem d2_13 : decode method_2_code 13 = .ok (.bipush 13, 2) := by decide +kernel
theorem d2_15 : decode method_2_code 15 = .ok (.if_icmp .ne 5, 3) := by decide +kernel
theorem d2_18 : decode method_2_code 18 = .ok (.iconst 1, 1) := by decide +kernel
theorem d2_19 : decode method_2_code 19 = .ok (.ireturn, 1) := by decide +kernel
theorem d2_20 : decode method_2_code 20 = .ok (.iload_n 0, 1) := by decide +kernel
theorem d2_21 : decode method_2_code 21 = .ok (.bipush 32, 2) := by decide +kernel
theorem d2_23 : decode method_2_code 23 = .ok (.if_icmp .lt 9, 3) := by decide +kernel
theorem d2_26 : decode method_2_code 26 = .ok (.iload_n 0, 1) := by decide +kernel
theorem d2_27 : decode method_2_code 27 = .ok (.ldc 7, 2) := by decide +kernel
theorem d2_29 : decode method_2_code 29 = .ok (.if_icmp .le 5, 3) := by decide +kernel
theorem d2_32 : decode method_2_code 32 = .ok (.iconst 0, 1) := by decide +kernel
theorem d2_33 : decode method_2_code 33 = .ok (.ireturn, 1) := by decide +kernel
theorem d2_34 : decode method_2_code 34 = .ok (.iload_n 0, 1) := by decide +kernel
theorem d2_35 : decode method_2_code 35 = .ok (.ldc 8, 2) := by decide +kernel
theorem d2_37 : decode method_2_code 37 = .ok (.if_icmp .lt 11, 3) := by decide +kernel
theorem d2_40 : decode method_2_code 40 = .ok (.iload_n 0, 1) := by decide +kernel
theorem d2_41 : decode method_2_code 41 = .ok (.ldc 9, 2) := by decide +kernel
theorem d2_43 : decode method_2_code 43 = .ok (.if_icmp .gt 5, 3) := by decide +kernel
theorem d2_46 : decode method_2_code 46 = .ok (.iconst 0, 1) := by decide +kernel
theorem d2_47 : decode method_2_code 47 = .ok (.ireturn, 1) := by decide +kernel
theorem d2_48 : decode method_2_code 48 = .ok (.iload_n 0, 1) := by decide +kernel
theorem d2_49 : decode method_2_code 49 = .ok (.ldc 10, 2) := by decide +kernel
theorem d2_51 : decode method_2_code 51 = .ok (.if_icmp .eq 9, 3) := by decide +kernel
theorem d2_54 : decode method_2_code 54 = .ok (.iload_n 0, 1) := by decide +kernel
theorem d2_55 : decode method_2_code 55 = .ok (.ldc 11, 2) := by decide +kernel
theorem d2_57 : decode method_2_code 57 = .ok (.if_icmp .ne 5, 3) := by decide +kernel
theorem d2_60 : decode method_2_code 60 = .ok (.iconst 0, 1) := by decide +kernel
theorem d2_61 : decode method_2_code 61 = .ok (.ireturn, 1) := by decide +kernel
theorem d2_62 : decode method_2_code 62 = .ok (.iconst 1, 1) := by decide +kernel
theorem d2_63 : decode method_2_code 63 = .ok (.ireturn, 1) := by decide +kernel
def v2_62 (x : Int32) : Int32 := (1 : Int32)
set_option maxRecDepth 65536 in
set_option maxHeartbeats 40000000 in
theorem b2_62 {p : Program} {l : Launch} {e : Env} {R : Room} {s : State} {m : MethodId} {args : Array Value} {below : List Frame} {meth : Method} {c : Code} {T : State} {locs : List Loc} {cells slots : Nat} {Z : State} {a0 : Array Value} (X : Stand p l e R s m args below meth c T locs cells slots) (hx : p.tables.exec = Jvm.exec) (hZ : Z.Warmed39 s.vm) (hw : ∀ d ∈ tables_1, d.before a0 Z = true) (hby : c.code = method_2_code) (hown : s.vm.findClass "com/example/libxdm/libxdm/model/XmlNamesIsCharacterPinLaw" = some m.cls) (hret : meth.sig.returnType = some .boolean) (x w : Int32) (hv : v2_62 x = w) {fs : List Frame} (hr : ∀ (f : JFrame) (acts : List Action), f.method = m → f.locked = none → f.entered = [] → (doReturn e (T.setTop f) acts (some (.int w))).1 = T.setFrames fs) : Steps p.tables e below (T.setTop (mkF m 62 #[.val (.int x)] [])) (T.setFrames fs) := by
  change (1 : Int32) = w at hv
  show Steps p.tables e below (T.setTop (mkF m 62 #[.val (.int x)] [])) _
  refine XS.iconst X.here hx rfl (hb hby d2_62) ?_
  show Steps p.tables e below (T.setTop (mkF m 63 #[.val (.int x)] [(.int (1 : Int32))])) _
  subst hv
  exact retN X hx (t := .boolean) hret (by simp) (hb hby d2_63) hr
def v2_60 (x : Int32) : Int32 := (0 : Int32)
set_option maxRecDepth 65536 in
set_option maxHeartbeats 40000000 in
theorem b2_60 {p : Program} {l : Launch} {e : Env} {R : Room} {s : State} {m : MethodId} {args : Array Value} {below : List Frame} {meth : Method} {c : Code} {T : State} {locs : List Loc} {cells slots : Nat} {Z : State} {a0 : Array Value} (X : Stand p l e R s m args below meth c T locs cells slots) (hx : p.tables.exec = Jvm.exec) (hZ : Z.Warmed39 s.vm) (hw : ∀ d ∈ tables_1, d.before a0 Z = true) (hby : c.code = method_2_code) (hown : s.vm.findClass "com/example/libxdm/libxdm/model/XmlNamesIsCharacterPinLaw" = some m.cls) (hret : meth.sig.returnType = some .boolean) (x w : Int32) (hv : v2_60 x = w) {fs : List Frame} (hr : ∀ (f : JFrame) (acts : List Action), f.method = m → f.locked = none → f.entered = [] → (doReturn e (T.setTop f) acts (some (.int w))).1 = T.setFrames fs) : Steps p.tables e below (T.setTop (mkF m 60 #[.val (.int x)] [])) (T.setFrames fs) := by
  change (0 : Int32) = w at hv
  show Steps p.tables e below (T.setTop (mkF m 60 #[.val (.int x)] [])) _
  refine XS.iconst X.here hx rfl (hb hby d2_60) ?_
  show Steps p.tables e below (T.setTop (mkF m 61 #[.val (.int x)] [(.int (0 : Int32))])) _
  subst hv
  exact retN X hx (t := .boolean) hret (by simp) (hb hby d2_61) hr
def v2_54 (x : Int32) : Int32 := (if x = (65535 : Int32) then v2_60 x else v2_62 x)
set_option maxRecDepth 65536 in
set_option maxHeartbeats 40000000 in
theorem b2_54 {p : Program} {l : Launch} {e : Env} {R : Room} {s : State} {m : MethodId} {args : Array Value} {below : List Frame} {meth : Method} {c : Code} {T : State} {locs : List Loc} {cells slots : Nat} {Z : State} {a0 : Array Value} (X : Stand p l e R s m args below meth c T locs cells slots) (hx : p.tables.exec = Jvm.exec) (hZ : Z.Warmed39 s.vm) (hw : ∀ d ∈ tables_1, d.before a0 Z = true) (hby : c.code = method_2_code) (hown : s.vm.findClass "com/example/libxdm/libxdm/model/XmlNamesIsCharacterPinLaw" = some m.cls) (hret : meth.sig.returnType = some .boolean) (x w : Int32) (hv : v2_54 x = w) {fs : List Frame} (hr : ∀ (f : JFrame) (acts : List Action), f.method = m → f.locked = none → f.entered = [] → (doReturn e (T.setTop f) acts (some (.int w))).1 = T.setFrames fs) : Steps p.tables e below (T.setTop (mkF m 54 #[.val (.int x)] [])) (T.setFrames fs) := by
  change (if x = (65535 : Int32) then v2_60 x else v2_62 x) = w at hv
  show Steps p.tables e below (T.setTop (mkF m 54 #[.val (.int x)] [])) _
  refine XS.iloadN X.here hx rfl (hb hby d2_54) rfl ?_
  show Steps p.tables e below (T.setTop (mkF m 55 #[.val (.int x)] [(.int x)])) _
  refine X.ldcI hx hown (v := (65535 : Int32)) (mvT hZ (hw _ (List.mem_of_getElem? (i := 6) rfl))) rfl (hb hby d2_55) ?_
  show Steps p.tables e below (T.setTop (mkF m 57 #[.val (.int x)] [(.int (65535 : Int32)), (.int x)])) _
  by_cases hc0 : x = (65535 : Int32)
  · rw [if_pos hc0] at hv
    refine XS.icmpNo X.here hx rfl (hb hby d2_57) rfl (teq hc0).2 ?_
    exact b2_60 X hx hZ hw hby hown hret x w hv hr
  · rw [if_neg hc0] at hv
    refine XS.icmpYes X.here hx rfl (pc0 := 57) (pc' := 62) rfl (hb hby d2_57) rfl (feq hc0).2 (by decide) (by decide) ?_
    exact b2_62 X hx hZ hw hby hown hret x w hv hr
def v2_48 (x : Int32) : Int32 := (if x = (65534 : Int32) then v2_60 x else v2_54 x)
set_option maxRecDepth 65536 in
set_option maxHeartbeats 40000000 in
theorem b2_48 {p : Program} {l : Launch} {e : Env} {R : Room} {s : State} {m : MethodId} {args : Array Value} {below : List Frame} {meth : Method} {c : Code} {T : State} {locs : List Loc} {cells slots : Nat} {Z : State} {a0 : Array Value} (X : Stand p l e R s m args below meth c T locs cells slots) (hx : p.tables.exec = Jvm.exec) (hZ : Z.Warmed39 s.vm) (hw : ∀ d ∈ tables_1, d.before a0 Z = true) (hby : c.code = method_2_code) (hown : s.vm.findClass "com/example/libxdm/libxdm/model/XmlNamesIsCharacterPinLaw" = some m.cls) (hret : meth.sig.returnType = some .boolean) (x w : Int32) (hv : v2_48 x = w) {fs : List Frame} (hr : ∀ (f : JFrame) (acts : List Action), f.method = m → f.locked = none → f.entered = [] → (doReturn e (T.setTop f) acts (some (.int w))).1 = T.setFrames fs) : Steps p.tables e below (T.setTop (mkF m 48 #[.val (.int x)] [])) (T.setFrames fs) := by
  change (if x = (65534 : Int32) then v2_60 x else v2_54 x) = w at hv
  show Steps p.tables e below (T.setTop (mkF m 48 #[.val (.int x)] [])) _
  refine XS.iloadN X.here hx rfl (hb hby d2_48) rfl ?_
  show Steps p.tables e below (T.setTop (mkF m 49 #[.val (.int x)] [(.int x)])) _
  refine X.ldcI hx hown (v := (65534 : Int32)) (mvT hZ (hw _ (List.mem_of_getElem? (i := 25) rfl))) rfl (hb hby d2_49) ?_
  show Steps p.tables e below (T.setTop (mkF m 51 #[.val (.int x)] [(.int (65534 : Int32)), (.int x)])) _
  by_cases hc0 : x = (65534 : Int32)
  · rw [if_pos hc0] at hv
    refine XS.icmpYes X.here hx rfl (pc0 := 51) (pc' := 60) rfl (hb hby d2_51) rfl (teq hc0).1 (by decide) (by decide) ?_
    exact b2_60 X hx hZ hw hby hown hret x w hv hr
  · rw [if_neg hc0] at hv
    refine XS.icmpNo X.here hx rfl (hb hby d2_51) rfl (feq hc0).1 ?_
    exact b2_54 X hx hZ hw hby hown hret x w hv hr
def v2_46 (x : Int32) : Int32 := (0 : Int32)
set_option maxRecDepth 65536 in
set_option maxHeartbeats 40000000 in
theorem b2_46 {p : Program} {l : Launch} {e : Env} {R : Room} {s : State} {m : MethodId} {args : Array Value} {below : List Frame} {meth : Method} {c : Code} {T : State} {locs : List Loc} {cells slots : Nat} {Z : State} {a0 : Array Value} (X : Stand p l e R s m args below meth c T locs cells slots) (hx : p.tables.exec = Jvm.exec) (hZ : Z.Warmed39 s.vm) (hw : ∀ d ∈ tables_1, d.before a0 Z = true) (hby : c.code = method_2_code) (hown : s.vm.findClass "com/example/libxdm/libxdm/model/XmlNamesIsCharacterPinLaw" = some m.cls) (hret : meth.sig.returnType = some .boolean) (x w : Int32) (hv : v2_46 x = w) {fs : List Frame} (hr : ∀ (f : JFrame) (acts : List Action), f.method = m → f.locked = none → f.entered = [] → (doReturn e (T.setTop f) acts (some (.int w))).1 = T.setFrames fs) : Steps p.tables e below (T.setTop (mkF m 46 #[.val (.int x)] [])) (T.setFrames fs) := by
  change (0 : Int32) = w at hv
  show Steps p.tables e below (T.setTop (mkF m 46 #[.val (.int x)] [])) _
  refine XS.iconst X.here hx rfl (hb hby d2_46) ?_
  show Steps p.tables e below (T.setTop (mkF m 47 #[.val (.int x)] [(.int (0 : Int32))])) _
  subst hv
  exact retN X hx (t := .boolean) hret (by simp) (hb hby d2_47) hr
def v2_40 (x : Int32) : Int32 := (if (57343 : Int32) < x then v2_48 x else v2_46 x)
set_option maxRecDepth 65536 in
set_option maxHeartbeats 40000000 in
theorem b2_40 {p : Program} {l : Launch} {e : Env} {R : Room} {s : State} {m : MethodId} {args : Array Value} {below : List Frame} {meth : Method} {c : Code} {T : State} {locs : List Loc} {cells slots : Nat} {Z : State} {a0 : Array Value} (X : Stand p l e R s m args below meth c T locs cells slots) (hx : p.tables.exec = Jvm.exec) (hZ : Z.Warmed39 s.vm) (hw : ∀ d ∈ tables_1, d.before a0 Z = true) (hby : c.code = method_2_code) (hown : s.vm.findClass "com/example/libxdm/libxdm/model/XmlNamesIsCharacterPinLaw" = some m.cls) (hret : meth.sig.returnType = some .boolean) (x w : Int32) (hv : v2_40 x = w) {fs : List Frame} (hr : ∀ (f : JFrame) (acts : List Action), f.method = m → f.locked = none → f.entered = [] → (doReturn e (T.setTop f) acts (some (.int w))).1 = T.setFrames fs) : Steps p.tables e below (T.setTop (mkF m 40 #[.val (.int x)] [])) (T.setFrames fs) := by
  change (if (57343 : Int32) < x then v2_48 x else v2_46 x) = w at hv
  show Steps p.tables e below (T.setTop (mkF m 40 #[.val (.int x)] [])) _
  refine XS.iloadN X.here hx rfl (hb hby d2_40) rfl ?_
  show Steps p.tables e below (T.setTop (mkF m 41 #[.val (.int x)] [(.int x)])) _
  refine X.ldcI hx hown (v := (57343 : Int32)) (mvT hZ (hw _ (List.mem_of_getElem? (i := 3) rfl))) rfl (hb hby d2_41) ?_
  show Steps p.tables e below (T.setTop (mkF m 43 #[.val (.int x)] [(.int (57343 : Int32)), (.int x)])) _
  by_cases hc0 : (57343 : Int32) < x
  · rw [if_pos hc0] at hv
    refine XS.icmpYes X.here hx rfl (pc0 := 43) (pc' := 48) rfl (hb hby d2_43) rfl (tlt hc0).2.2.1 (by decide) (by decide) ?_
    exact b2_48 X hx hZ hw hby hown hret x w hv hr
  · rw [if_neg hc0] at hv
    refine XS.icmpNo X.here hx rfl (hb hby d2_43) rfl (flt hc0).2.2.1 ?_
    exact b2_46 X hx hZ hw hby hown hret x w hv hr
def v2_34 (x : Int32) : Int32 := (if x < (55296 : Int32) then v2_48 x else v2_40 x)
set_option maxRecDepth 65536 in
set_option maxHeartbeats 40000000 in
theorem b2_34 {p : Program} {l : Launch} {e : Env} {R : Room} {s : State} {m : MethodId} {args : Array Value} {below : List Frame} {meth : Method} {c : Code} {T : State} {locs : List Loc} {cells slots : Nat} {Z : State} {a0 : Array Value} (X : Stand p l e R s m args below meth c T locs cells slots) (hx : p.tables.exec = Jvm.exec) (hZ : Z.Warmed39 s.vm) (hw : ∀ d ∈ tables_1, d.before a0 Z = true) (hby : c.code = method_2_code) (hown : s.vm.findClass "com/example/libxdm/libxdm/model/XmlNamesIsCharacterPinLaw" = some m.cls) (hret : meth.sig.returnType = some .boolean) (x w : Int32) (hv : v2_34 x = w) {fs : List Frame} (hr : ∀ (f : JFrame) (acts : List Action), f.method = m → f.locked = none → f.entered = [] → (doReturn e (T.setTop f) acts (some (.int w))).1 = T.setFrames fs) : Steps p.tables e below (T.setTop (mkF m 34 #[.val (.int x)] [])) (T.setFrames fs) := by
  change (if x < (55296 : Int32) then v2_48 x else v2_40 x) = w at hv
  show Steps p.tables e below (T.setTop (mkF m 34 #[.val (.int x)] [])) _
  refine XS.iloadN X.here hx rfl (hb hby d2_34) rfl ?_
  show Steps p.tables e below (T.setTop (mkF m 35 #[.val (.int x)] [(.int x)])) _
  refine X.ldcI hx hown (v := (55296 : Int32)) (mvT hZ (hw _ (List.mem_of_getElem? (i := 2) rfl))) rfl (hb hby d2_35) ?_
  show Steps p.tables e below (T.setTop (mkF m 37 #[.val (.int x)] [(.int (55296 : Int32)), (.int x)])) _
  by_cases hc0 : x < (55296 : Int32)
  · rw [if_pos hc0] at hv
    refine XS.icmpYes X.here hx rfl (pc0 := 37) (pc' := 48) rfl (hb hby d2_37) rfl (tlt hc0).1 (by decide) (by decide) ?_
    exact b2_48 X hx hZ hw hby hown hret x w hv hr
  · rw [if_neg hc0] at hv
    refine XS.icmpNo X.here hx rfl (hb hby d2_37) rfl (flt hc0).1 ?_
    exact b2_40 X hx hZ hw hby hown hret x w hv hr
def v2_32 (x : Int32) : Int32 := (0 : Int32)
set_option maxRecDepth 65536 in
set_option maxHeartbeats 40000000 in
theorem b2_32 {p : Program} {l : Launch} {e : Env} {R : Room} {s : State} {m : MethodId} {args : Array Value} {below : List Frame} {meth : Method} {c : Code} {T : State} {locs : List Loc} {cells slots : Nat} {Z : State} {a0 : Array Value} (X : Stand p l e R s m args below meth c T locs cells slots) (hx : p.tables.exec = Jvm.exec) (hZ : Z.Warmed39 s.vm) (hw : ∀ d ∈ tables_1, d.before a0 Z = true) (hby : c.code = method_2_code) (hown : s.vm.findClass "com/example/libxdm/libxdm/model/XmlNamesIsCharacterPinLaw" = some m.cls) (hret : meth.sig.returnType = some .boolean) (x w : Int32) (hv : v2_32 x = w) {fs : List Frame} (hr : ∀ (f : JFrame) (acts : List Action), f.method = m → f.locked = none → f.entered = [] → (doReturn e (T.setTop f) acts (some (.int w))).1 = T.setFrames fs) : Steps p.tables e below (T.setTop (mkF m 32 #[.val (.int x)] [])) (T.setFrames fs) := by
  change (0 : Int32) = w at hv
  show Steps p.tables e below (T.setTop (mkF m 32 #[.val (.int x)] [])) _
  refine XS.iconst X.here hx rfl (hb hby d2_32) ?_
  show Steps p.tables e below (T.setTop (mkF m 33 #[.val (.int x)] [(.int (0 : Int32))])) _
  subst hv
  exact retN X hx (t := .boolean) hret (by simp) (hb hby d2_33) hr
def v2_26 (x : Int32) : Int32 := (if (1114111 : Int32) < x then v2_32 x else v2_34 x)
set_option maxRecDepth 65536 in
set_option maxHeartbeats 40000000 in
theorem b2_26 {p : Program} {l : Launch} {e : Env} {R : Room} {s : State} {m : MethodId} {args : Array Value} {below : List Frame} {meth : Method} {c : Code} {T : State} {locs : List Loc} {cells slots : Nat} {Z : State} {a0 : Array Value} (X : Stand p l e R s m args below meth c T locs cells slots) (hx : p.tables.exec = Jvm.exec) (hZ : Z.Warmed39 s.vm) (hw : ∀ d ∈ tables_1, d.before a0 Z = true) (hby : c.code = method_2_code) (hown : s.vm.findClass "com/example/libxdm/libxdm/model/XmlNamesIsCharacterPinLaw" = some m.cls) (hret : meth.sig.returnType = some .boolean) (x w : Int32) (hv : v2_26 x = w) {fs : List Frame} (hr : ∀ (f : JFrame) (acts : List Action), f.method = m → f.locked = none → f.entered = [] → (doReturn e (T.setTop f) acts (some (.int w))).1 = T.setFrames fs) : Steps p.tables e below (T.setTop (mkF m 26 #[.val (.int x)] [])) (T.setFrames fs) := by
  change (if (1114111 : Int32) < x then v2_32 x else v2_34 x) = w at hv
  show Steps p.tables e below (T.setTop (mkF m 26 #[.val (.int x)] [])) _
  refine XS.iloadN X.here hx rfl (hb hby d2_26) rfl ?_
  show Steps p.tables e below (T.setTop (mkF m 27 #[.val (.int x)] [(.int x)])) _
  refine X.ldcI hx hown (v := (1114111 : Int32)) (mvT hZ (hw _ (List.mem_of_getElem? (i := 8) rfl))) rfl (hb hby d2_27) ?_
  show Steps p.tables e below (T.setTop (mkF m 29 #[.val (.int x)] [(.int (1114111 : Int32)), (.int x)])) _
  by_cases hc0 : (1114111 : Int32) < x
  · rw [if_pos hc0] at hv
    refine XS.icmpNo X.here hx rfl (hb hby d2_29) rfl (tlt hc0).2.2.2 ?_
    exact b2_32 X hx hZ hw hby hown hret x w hv hr
  · rw [if_neg hc0] at hv
    refine XS.icmpYes X.here hx rfl (pc0 := 29) (pc' := 34) rfl (hb hby d2_29) rfl (flt hc0).2.2.2 (by decide) (by decide) ?_
    exact b2_34 X hx hZ hw hby hown hret x w hv hr
def v2_20 (x : Int32) : Int32 := (if x < (32 : Int32) then v2_32 x else v2_26 x)
set_option maxRecDepth 65536 in
set_option maxHeartbeats 40000000 in
theorem b2_20 {p : Program} {l : Launch} {e : Env} {R : Room} {s : State} {m : MethodId} {args : Array Value} {below : List Frame} {meth : Method} {c : Code} {T : State} {locs : List Loc} {cells slots : Nat} {Z : State} {a0 : Array Value} (X : Stand p l e R s m args below meth c T locs cells slots) (hx : p.tables.exec = Jvm.exec) (hZ : Z.Warmed39 s.vm) (hw : ∀ d ∈ tables_1, d.before a0 Z = true) (hby : c.code = method_2_code) (hown : s.vm.findClass "com/example/libxdm/libxdm/model/XmlNamesIsCharacterPinLaw" = some m.cls) (hret : meth.sig.returnType = some .boolean) (x w : Int32) (hv : v2_20 x = w) {fs : List Frame} (hr : ∀ (f : JFrame) (acts : List Action), f.method = m → f.locked = none → f.entered = [] → (doReturn e (T.setTop f) acts (some (.int w))).1 = T.setFrames fs) : Steps p.tables e below (T.setTop (mkF m 20 #[.val (.int x)] [])) (T.setFrames fs) := by
  change (if x < (32 : Int32) then v2_32 x else v2_26 x) = w at hv
  show Steps p.tables e below (T.setTop (mkF m 20 #[.val (.int x)] [])) _
  refine XS.iloadN X.here hx rfl (hb hby d2_20) rfl ?_
  show Steps p.tables e below (T.setTop (mkF m 21 #[.val (.int x)] [(.int x)])) _
  refine XS.bipush X.here hx rfl (hb hby d2_21) ?_
  show Steps p.tables e below (T.setTop (mkF m 23 #[.val (.int x)] [(.int (32 : Int32)), (.int x)])) _
  by_cases hc0 : x < (32 : Int32)
  · rw [if_pos hc0] at hv
    refine XS.icmpYes X.here hx rfl (pc0 := 23) (pc' := 32) rfl (hb hby d2_23) rfl (tlt hc0).1 (by decide) (by decide) ?_
    exact b2_32 X hx hZ hw hby hown hret x w hv hr
  · rw [if_neg hc0] at hv
    refine XS.icmpNo X.here hx rfl (hb hby d2_23) rfl (flt hc0).1 ?_
    exact b2_26 X hx hZ hw hby hown hret x w hv hr
def v2_18 (x : Int32) : Int32 := (1 : Int32)
set_option maxRecDepth 65536 in
set_option maxHeartbeats 40000000 in
theorem b2_18 {p : Program} {l : Launch} {e : Env} {R : Room} {s : State} {m : MethodId} {args : Array Value} {below : List Frame} {meth : Method} {c : Code} {T : State} {locs : List Loc} {cells slots : Nat} {Z : State} {a0 : Array Value} (X : Stand p l e R s m args below meth c T locs cells slots) (hx : p.tables.exec = Jvm.exec) (hZ : Z.Warmed39 s.vm) (hw : ∀ d ∈ tables_1, d.before a0 Z = true) (hby : c.code = method_2_code) (hown : s.vm.findClass "com/example/libxdm/libxdm/model/XmlNamesIsCharacterPinLaw" = some m.cls) (hret : meth.sig.returnType = some .boolean) (x w : Int32) (hv : v2_18 x = w) {fs : List Frame} (hr : ∀ (f : JFrame) (acts : List Action), f.method = m → f.locked = none → f.entered = [] → (doReturn e (T.setTop f) acts (some (.int w))).1 = T.setFrames fs) : Steps p.tables e below (T.setTop (mkF m 18 #[.val (.int x)] [])) (T.setFrames fs) := by
  change (1 : Int32) = w at hv
  show Steps p.tables e below (T.setTop (mkF m 18 #[.val (.int x)] [])) _
  refine XS.iconst X.here hx rfl (hb hby d2_18) ?_
  show Steps p.tables e below (T.setTop (mkF m 19 #[.val (.int x)] [(.int (1 : Int32))])) _
  subst hv
  exact retN X hx (t := .boolean) hret (by simp) (hb hby d2_19) hr
def v2_12 (x : Int32) : Int32 := (if x = (13 : Int32) then v2_18 x else v2_20 x)
set_option maxRecDepth 65536 in
set_option maxHeartbeats 40000000 in
theorem b2_12 {p : Program} {l : Launch} {e : Env} {R : Room} {s : State} {m : MethodId} {args : Array Value} {below : List Frame} {meth : Method} {c : Code} {T : State} {locs : List Loc} {cells slots : Nat} {Z : State} {a0 : Array Value} (X : Stand p l e R s m args below meth c T locs cells slots) (hx : p.tables.exec = Jvm.exec) (hZ : Z.Warmed39 s.vm) (hw : ∀ d ∈ tables_1, d.before a0 Z = true) (hby : c.code = method_2_code) (hown : s.vm.findClass "com/example/libxdm/libxdm/model/XmlNamesIsCharacterPinLaw" = some m.cls) (hret : meth.sig.returnType = some .boolean) (x w : Int32) (hv : v2_12 x = w) {fs : List Frame} (hr : ∀ (f : JFrame) (acts : List Action), f.method = m → f.locked = none → f.entered = [] → (doReturn e (T.setTop f) acts (some (.int w))).1 = T.setFrames fs) : Steps p.tables e below (T.setTop (mkF m 12 #[.val (.int x)] [])) (T.setFrames fs) := by
  change (if x = (13 : Int32) then v2_18 x else v2_20 x) = w at hv
  show Steps p.tables e below (T.setTop (mkF m 12 #[.val (.int x)] [])) _
  refine XS.iloadN X.here hx rfl (hb hby d2_12) rfl ?_
  show Steps p.tables e below (T.setTop (mkF m 13 #[.val (.int x)] [(.int x)])) _
  refine XS.bipush X.here hx rfl (hb hby d2_13) ?_
  show Steps p.tables e below (T.setTop (mkF m 15 #[.val (.int x)] [(.int (13 : Int32)), (.int x)])) _
  by_cases hc0 : x = (13 : Int32)
  · rw [if_pos hc0] at hv
    refine XS.icmpNo X.here hx rfl (hb hby d2_15) rfl (teq hc0).2 ?_
    exact b2_18 X hx hZ hw hby hown hret x w hv hr
  · rw [if_neg hc0] at hv
    refine XS.icmpYes X.here hx rfl (pc0 := 15) (pc' := 20) rfl (hb hby d2_15) rfl (feq hc0).2 (by decide) (by decide) ?_
    exact b2_20 X hx hZ hw hby hown hret x w hv hr
def v2_6 (x : Int32) : Int32 := (if x = (10 : Int32) then v2_18 x else v2_12 x)
set_option maxRecDepth 65536 in
set_option maxHeartbeats 40000000 in
theorem b2_6 {p : Program} {l : Launch} {e : Env} {R : Room} {s : State} {m : MethodId} {args : Array Value} {below : List Frame} {meth : Method} {c : Code} {T : State} {locs : List Loc} {cells slots : Nat} {Z : State} {a0 : Array Value} (X : Stand p l e R s m args below meth c T locs cells slots) (hx : p.tables.exec = Jvm.exec) (hZ : Z.Warmed39 s.vm) (hw : ∀ d ∈ tables_1, d.before a0 Z = true) (hby : c.code = method_2_code) (hown : s.vm.findClass "com/example/libxdm/libxdm/model/XmlNamesIsCharacterPinLaw" = some m.cls) (hret : meth.sig.returnType = some .boolean) (x w : Int32) (hv : v2_6 x = w) {fs : List Frame} (hr : ∀ (f : JFrame) (acts : List Action), f.method = m → f.locked = none → f.entered = [] → (doReturn e (T.setTop f) acts (some (.int w))).1 = T.setFrames fs) : Steps p.tables e below (T.setTop (mkF m 6 #[.val (.int x)] [])) (T.setFrames fs) := by
  change (if x = (10 : Int32) then v2_18 x else v2_12 x) = w at hv
  show Steps p.tables e below (T.setTop (mkF m 6 #[.val (.int x)] [])) _
  refine XS.iloadN X.here hx rfl (hb hby d2_6) rfl ?_
  show Steps p.tables e below (T.setTop (mkF m 7 #[.val (.int x)] [(.int x)])) _
  refine XS.bipush X.here hx rfl (hb hby d2_7) ?_
  show Steps p.tables e below (T.setTop (mkF m 9 #[.val (.int x)] [(.int (10 : Int32)), (.int x)])) _
  by_cases hc0 : x = (10 : Int32)
  · rw [if_pos hc0] at hv
    refine XS.icmpYes X.here hx rfl (pc0 := 9) (pc' := 18) rfl (hb hby d2_9) rfl (teq hc0).1 (by decide) (by decide) ?_
    exact b2_18 X hx hZ hw hby hown hret x w hv hr
  · rw [if_neg hc0] at hv
    refine XS.icmpNo X.here hx rfl (hb hby d2_9) rfl (feq hc0).1 ?_
    exact b2_12 X hx hZ hw hby hown hret x w hv hr
def v2_0 (x : Int32) : Int32 := (if x = (9 : Int32) then v2_18 x else v2_6 x)
set_option maxRecDepth 65536 in
set_option maxHeartbeats 40000000 in
theorem b2_0 {p : Program} {l : Launch} {e : Env} {R : Room} {s : State} {m : MethodId} {args : Array Value} {below : List Frame} {meth : Method} {c : Code} {T : State} {locs : List Loc} {cells slots : Nat} {Z : State} {a0 : Array Value} (X : Stand p l e R s m args below meth c T locs cells slots) (hx : p.tables.exec = Jvm.exec) (hZ : Z.Warmed39 s.vm) (hw : ∀ d ∈ tables_1, d.before a0 Z = true) (hby : c.code = method_2_code) (hown : s.vm.findClass "com/example/libxdm/libxdm/model/XmlNamesIsCharacterPinLaw" = some m.cls) (hret : meth.sig.returnType = some .boolean) (x w : Int32) (hv : v2_0 x = w) {fs : List Frame} (hr : ∀ (f : JFrame) (acts : List Action), f.method = m → f.locked = none → f.entered = [] → (doReturn e (T.setTop f) acts (some (.int w))).1 = T.setFrames fs) : Steps p.tables e below (T.setTop (mkF m 0 #[.val (.int x)] [])) (T.setFrames fs) := by
  change (if x = (9 : Int32) then v2_18 x else v2_6 x) = w at hv
  show Steps p.tables e below (T.setTop (mkF m 0 #[.val (.int x)] [])) _
  refine XS.iloadN X.here hx rfl (hb hby d2_0) rfl ?_
  show Steps p.tables e below (T.setTop (mkF m 1 #[.val (.int x)] [(.int x)])) _
  refine XS.bipush X.here hx rfl (hb hby d2_1) ?_
  show Steps p.tables e below (T.setTop (mkF m 3 #[.val (.int x)] [(.int (9 : Int32)), (.int x)])) _
  by_cases hc0 : x = (9 : Int32)
  · rw [if_pos hc0] at hv
    refine XS.icmpYes X.here hx rfl (pc0 := 3) (pc' := 18) rfl (hb hby d2_3) rfl (teq hc0).1 (by decide) (by decide) ?_
    exact b2_18 X hx hZ hw hby hown hret x w hv hr
  · rw [if_neg hc0] at hv
    refine XS.icmpNo X.here hx rfl (hb hby d2_3) rfl (feq hc0).1 ?_
    exact b2_6 X hx hZ hw hby hown hret x w hv hr
theorem pn_2 : plainName "com/example/libxdm/libxdm/model/XmlNamesIsCharacterPinLaw" = true := by first | (simp [plainName, overriddenIn]; done) | decide +kernel
theorem ef_2 (m : MethodId) (x0 : Int32) : entryFrame m #[(.int x0)] 1 = mkF m 0 #[.val (.int x0)] [] := by first | (simp [entryFrame, mkF, argsToLocals, Value.category]; done) | rfl
def Q2 (Z : State) (p1 : Int32) (h0 : Heap) (n0 : Nat) (v : Option Value) (h : Heap) (L : List Loc) : Prop := v = some (.int (v2_0 p1)) ∧ Fr n0 L ∧ h = h0
set_option maxRecDepth 65536 in
set_option maxHeartbeats 40000000 in
theorem rm2 (l : Launch) (Z : State) (a0 : Array Value) (hw : ∀ d ∈ tables_1, d.before a0 Z = true) (ws : List Jvm.Cond) (p1 : Int32) (h0 : Heap) (n0 : Nat) :
    MetFree l (⟨"com/example/libxdm/libxdm/model/XmlNamesIsCharacterPinLaw", "expected", "(I)Z"⟩ : MethodName) (head1 (Jvm.Cond.code (⟨"com/example/libxdm/libxdm/model/XmlNamesIsCharacterPinLaw", "expected", "(I)Z"⟩ : MethodName) method_2_code 1 (some .boolean) :: ws) ({ frames := 0, cells := 0, slots := 0, locals := 0 } : Room)) (fun a U => a = #[(.int p1)] ∧ Z.Warmed39 U.vm ∧ U.heap = h0) (fun _ _ _ _ _ => True) (fun _ U o U' => ∃ v L, o = .returned v ∧ Q2 Z p1 h0 n0 v U'.heap L ∧ FrameEnd U o U' L ({ frames := 0, cells := 0, slots := 0, locals := 0 } : Room).cells ({ frames := 0, cells := 0, slots := 0, locals := 0 } : Room).slots) := by
  refine MetFree.of_bodySF (plainFor_of_name pn_2) hisR ?_
  intro p e s m args below meth c s₁ Bd hml0 hP hK
  obtain ⟨rfl, hZ, hh⟩ := hP
  have hx := Bd.exec
  have hby := Bd.bytes
  have hown : s.vm.findClass "com/example/libxdm/libxdm/model/XmlNamesIsCharacterPinLaw" = some m.cls := findClass_of_methodNamed Bd.named
  have X0 : Stand p l e ({ frames := 0, cells := 0, slots := 0, locals := 0 } : Room) s m #[(.int p1)] below meth c s₁ [] 0 0 := Stand.of_body Bd
  have e0 : s₁.heap = h0 := by rw [← hh, Bd.state]; rfl
  have N0 := Fr.nil n0
  have pre0 : ∀ t, Steps p.tables e below (s₁.setTop (mkF m 0 #[.val (.int p1)] [])) t → Steps p.tables e below (s₁.setTop (entryFrame m #[(.int p1)] 1)) t := fun t k => castTop (ef_2 m p1) k
  obtain ⟨fs, hr, hrun, hended, hW, hsame⟩ := X0.leave (v := some (.int (v2_0 p1))) (fun h => by rw [Bd.returns] at h; cases h)
  refine ⟨_, _, pre0 _ ?_, hrun, hended, _, _, rfl, ?_, ⟨_, rfl⟩, hW, hsame.mono (by decide) (by decide)⟩
  · exact b2_0 X0 hx hZ hw hby hown Bd.returns p1 _ rfl hr
  · show Q2 Z p1 h0 n0 _ s₁.heap _
    rw [e0]
    exact ⟨rfl, N0, rfl⟩
theorem r2_0 (x : Int32) : v2_0 x = (if (x = (9 : Int32)) ∨ (x = (10 : Int32)) then v2_18 x else v2_12 x) := by
  unfold v2_0 v2_6
  by_cases h1 : x = (9 : Int32) <;> by_cases h2 : x = (10 : Int32) <;> simp [h1, h2]
theorem r2_12 (x : Int32) : v2_12 x = (if x = (13 : Int32) then v2_18 x else v2_20 x) := rfl
theorem r2_20 (x : Int32) : v2_20 x = (if (x < (32 : Int32)) ∨ ((1114111 : Int32) < x) then v2_32 x else v2_34 x) := by
  unfold v2_20 v2_26
  by_cases h1 : x < (32 : Int32) <;> by_cases h2 : (1114111 : Int32) < x <;> simp [h1, h2]
theorem r2_34 (x : Int32) : v2_34 x = (if (x < (55296 : Int32)) ∨ ((57343 : Int32) < x) then v2_48 x else v2_46 x) := by
  unfold v2_34 v2_40
  by_cases h1 : x < (55296 : Int32) <;> by_cases h2 : (57343 : Int32) < x <;> simp [h1, h2]
theorem r2_46 (x : Int32) : v2_46 x = (0 : Int32) := rfl
theorem r2_48 (x : Int32) : v2_48 x = (if (x = (65534 : Int32)) ∨ (x = (65535 : Int32)) then v2_60 x else v2_62 x) := by
  unfold v2_48 v2_54
  by_cases h1 : x = (65534 : Int32) <;> by_cases h2 : x = (65535 : Int32) <;> simp [h1, h2]
theorem r2_62 (x : Int32) : v2_62 x = (1 : Int32) := rfl
theorem r2_60 (x : Int32) : v2_60 x = (0 : Int32) := rfl
theorem r2_32 (x : Int32) : v2_32 x = (0 : Int32) := rfl
theorem r2_18 (x : Int32) : v2_18 x = (1 : Int32) := rfl
/-! the plain law -/
set_option maxHeartbeats 4000000 in
theorem own_same (x : Int32) : v1_0 x = v2_0 x := by
  simp only [r1_0, r1_12, r1_18, r1_54, r1_30, r1_42, r1_58, r2_0, r2_12, r2_20, r2_34, r2_46, r2_48, r2_62, r2_60, r2_32, r2_18]
  simp only [Int32.lt_iff_toInt_lt, ← Int32.toInt_inj, apply_ite Int32.toInt, Int32.reduceToInt]
  omega
/-! arrays of ints: the array at a has n places; place j holds f j -/
def own_A (Z : State) (h : Heap) (a : Addr) (n : Nat) (f : Nat → Int32) : Prop := ∃ cl : Cell, Arr Z h a cl .int ∧ cl.slots.size = n ∧ ∀ j, j < n → cl.slots[j]? = some (.int (f j))
theorem own_A.lt {Z : State} {h : Heap} {a : Addr} {n : Nat} {f : Nat → Int32} (A : own_A Z h a n f) : a < h.size := by
  obtain ⟨cl, Ar, -⟩ := A
  exact Ar.lt
theorem own_A.ext {Z : State} {h h' : Heap} {a : Addr} {n : Nat} {f : Nat → Int32} (A : own_A Z h a n f) (E : Ext h h') : own_A Z h' a n f := by
  obtain ⟨cl, Ar, r⟩ := A
  exact ⟨cl, Ar.ext E, r⟩
theorem own_A.keep {Z : State} {h h' : Heap} {a : Addr} {n : Nat} {f : Nat → Int32} {ws : List Addr} (A : own_A Z h a n f) (K : Keep h h' ws) (q : a ∉ ws) : own_A Z h' a n f := by
  obtain ⟨cl, Ar, r⟩ := A
  exact ⟨cl, ⟨K.2.1 a cl Ar.1 q, Ar.2⟩, r⟩
theorem own_slot (cl : Cell) (k : Nat) (v : Value) (i : Nat) (hk : k < cl.slots.size) : (cl.setSlot k v).slots[i]? = if i = k then some v else cl.slots[i]? := by
  show (cl.slots.setIfInBounds k v)[i]? = _
  rw [Array.getElem?_setIfInBounds]
  by_cases q : k = i
  · subst q
    simp [hk]
  · rw [if_neg q, if_neg (fun z => q z.symm)]
set_option maxHeartbeats 4000000 in
theorem own_put {p : Program} {l : Launch} {e : Env} {R : Room} {s : State} {m : MethodId} {args : Array Value} {below : List Frame} {meth : Method} {c : Code} {T : State} {locs : List Loc} {cells slots : Nat} {Z : State} (X : Stand p l e R s m args below meth c T locs cells slots) (hx : p.tables.exec = Jvm.exec) (hZ : Z.Warmed39 s.vm) {h : Heap} (eT : T.heap = h) {a : Addr} {n : Nat} {f : Nat → Int32} (A : own_A Z h a n f) {n0 : Nat} (N : Fr n0 locs) (ga : n0 ≤ a) {j x : Int32} (hj : ¬ j < 0) (hk : j.toNatClampNeg < n) {g : JFrame} (hg : g.method = m) {rest : List Value} (hs : g.stack = .int x :: .int j :: .ref a :: rest) (hd : decode c.code g.pc = .ok (.iastore, 1)) :
    ∃ (T' : State) (h' : Heap) (locs' : List Loc), Stand p l e R s m args below meth c T' locs' cells slots ∧ T'.heap = h' ∧ Fr n0 locs' ∧ own_A Z h' a n (fun i => if i = j.toNatClampNeg then x else f i) ∧ Keep h h' [a] ∧ ∀ target, Steps p.tables e below (T'.setTop { g with pc := g.pc + 1, stack := rest }) target → Steps p.tables e below (T.setTop g) target := by
  obtain ⟨cl, Ar, S, V⟩ := A
  obtain ⟨T', h', X', e', W', st⟩ := stI X hx hZ eT Ar (j := j) (by rw [S]; exact fun q => q.elim hj (fun q => by omega)) hg hs hd
  refine ⟨T', h', _, X', e', Fr.snoc X' N ga, ⟨_, Ar.same W', by rw [sz_set]; exact S, fun i hi => ?_⟩, Keep.of_wr W', st⟩
  rw [own_slot _ _ _ _ (by omega)]
  show _ = some (Value.int (if i = j.toNatClampNeg then x else f i))
  by_cases q : i = j.toNatClampNeg
  · rw [if_pos q, if_pos q]
  · rw [if_neg q, if_neg q]
    exact V i hi
set_option maxHeartbeats 4000000 in
theorem own_load {p : Program} {l : Launch} {e : Env} {R : Room} {s : State} {m : MethodId} {args : Array Value} {below : List Frame} {meth : Method} {c : Code} {T : State} {locs : List Loc} {cells slots : Nat} {Z : State} (X : Stand p l e R s m args below meth c T locs cells slots) (hx : p.tables.exec = Jvm.exec) (hZ : Z.Warmed39 s.vm) {h : Heap} (eT : T.heap = h) {a : Addr} {n : Nat} {f : Nat → Int32} (A : own_A Z h a n f) {j : Int32} (hj : ¬ j < 0) (hk : j.toNatClampNeg < n) {g : JFrame} (hg : g.method = m) {rest : List Value} (hs : g.stack = .int j :: .ref a :: rest) (hd : decode c.code g.pc = .ok (.iaload, 1)) :
    ∃ z : Int32, z = f j.toNatClampNeg ∧ ∀ target, Steps p.tables e below (T.setTop { g with pc := g.pc + 1, stack := .int z :: rest }) target → Steps p.tables e below (T.setTop g) target := by
  obtain ⟨cl, Ar, S, V⟩ := A
  exact ⟨_, rfl, fun target hr => X.iaload hx (j := j) (v := .int (f j.toNatClampNeg)) (by rw [eT]; exact Ar.1) (State.isArrayOf_alike hZ.alike Ar.2.1) Ar.2.2 (by rw [S]; exact fun q => q.elim hj (fun q => by omega)) (V _ hk) hg hs hd target hr⟩
set_option maxHeartbeats 4000000 in
theorem own_new {p : Program} {l : Launch} {e : Env} {R : Room} {s : State} {m : MethodId} {args : Array Value} {below : List Frame} {meth : Method} {c : Code} {T : State} {locs : List Loc} {cells slots : Nat} {Z : State} (X : Stand p l e R s m args below meth c T locs cells slots) (hx : p.tables.exec = Jvm.exec) (hZ : Z.Warmed39 s.vm) {h : Heap} (eT : T.heap = h) {a0 : Array Value} (w : (Cond.arrayClass .int).before a0 Z = true) {g : JFrame} (hg : g.method = m) (hd : decode c.code g.pc = .ok (.newarray .int, 2)) {n : Int32} {rest : List Value} (hs : g.stack = .int n :: rest) (hn : ¬ n < 0) {k : Nat} (hk : n.toNatClampNeg = k) (hb : k * 8 ≤ 536870912) (hc : cells + 1 ≤ R.cells) (hl : slots + k ≤ R.slots) :
    ∃ (T' : State) (h' : Heap), Stand p l e R s m args below meth c T' locs (cells + 1) (slots + k) ∧ T'.heap = h' ∧ Ext h h' ∧ own_A Z h' h.size k (fun _ => 0) ∧ ∀ target, Steps p.tables e below (T'.setTop { g with pc := g.pc + 2, stack := .ref h.size :: rest }) target → Steps p.tables e below (T.setTop g) target := by
  obtain ⟨T', h', cA, X', e', E', A', st⟩ := newP X hx hZ (aty := .int) w eT hg hd hs hn (cap := k) (Nat.le_of_eq hk) hb hc hl
  refine ⟨T', h', X', e', E', ⟨_, A', by rw [sz_new]; exact hk, fun j hj => ?_⟩, st⟩
  show (Array.replicate n.toNatClampNeg (defaultValue .int))[j]? = _
  rw [hk, Array.getElem?_replicate, if_pos hj]
  rfl
theorem own_idx (y : Int32) : ¬ (y &&& (15 : Int32)) < 0 ∧ (y &&& (15 : Int32)).toNatClampNeg < 16 := by
  have e1 : (y &&& 15).toInt = y.toInt % 2 ^ 4 := Jvm.Kit.i32_mask y 15 (k := 4) (by decide) (by decide)
  rw [Int32.lt_iff_toInt_lt, Int32.toNatClampNeg, e1, show (0 : Int32).toInt = 0 from rfl]
  omega
theorem pn_0 : plainName "com/example/libxdm/libxdm/model/XmlNamesIsCharacterPinLaw" = true := by first | (simp [plainName, overriddenIn]; done) | decide +kernel
theorem pd_0_0 : parseMethodDescriptor "(I)Z" = some ⟨[.int], some .boolean⟩ := by decide +kernel
theorem ef_0 (m : MethodId) (x0 : Int32) (x1 : Int32) (x2 : Int32) : entryFrame m #[(.int x0), (.int x1), (.int x2)] maxLocals = mkF m 0 #[.val (.int x0), .val (.int x1), .val (.int x2), .unset, .unset, .unset, .unset] [] := by first | (simp [entryFrame, mkF, argsToLocals, Value.category, maxLocals]; done) | rfl
set_option maxRecDepth 65536 in
set_option maxHeartbeats 40000000 in
theorem tail0 {p : Program} {l : Launch} {e : Env} {s : State} {m : MethodId} {args : Array Value} {below : List Frame} {meth : Method} {c : Code} {T : State} {locs : List Loc} {cells slots : Nat} {Z : State} {a0 : Array Value} (X : Stand p l e room_1 s m args below meth c T locs cells slots) (hx : p.tables.exec = Jvm.exec) (hZ : Z.Warmed39 s.vm) (hw : ∀ d ∈ tables_1, d.before a0 Z = true) (hby : c.code = code) (hml : c.maxLocals = 7) (hown : s.vm.findClass "com/example/libxdm/libxdm/model/XmlNamesIsCharacterPinLaw" = some m.cls) (hret : meth.sig.returnType = some .boolean) (hlk : meth.locks = false) (h : Heap) (eT : T.heap = h) (n0 : Nat) (N0 : Fr n0 locs) (hcl : cells ≤ room_1.cells) (hsl : slots ≤ room_1.slots) (s0 : Slot) (s1 : Slot) (s2 : Slot) (s3 : Slot) (s4 : Slot) (s5 : Slot) (cc : Int32) :
    ∃ (u : State) (L : List Loc), Steps p.tables e below (T.setTop (mkF m 127 #[s0, s1, s2, s3, s4, s5, .val (.int cc)] [])) u ∧ u.status = .running ∧ Ended u below (.returned (some (.int (1 : Int32)))) ∧ s.WarmedH u.vm ∧ s.sameButNew ({ u with vm := s.vm } : State) L cells slots ∧ Fr n0 L := by
  obtain ⟨_, _, ⟨T3, L3, k3, n3⟩, -, X3, ⟨Lc3, hQ3, l3, y3, z3⟩, st3⟩ := Jvm.LawKit.callS X hx (y := (⟨"com/example/libxdm/libxdm/model/XmlNames", "isCharacter", "(I)Z"⟩ : MethodName)) hown (mvT hZ (hw _ (List.mem_of_getElem? (i := 12) rfl))) (mvT hZ (hw _ (List.mem_of_getElem? (i := 13) rfl))) (mvT hZ (hw _ (List.mem_of_getElem? (i := 14) rfl))) (mvT hZ (hw _ (List.mem_of_getElem? (i := 15) rfl))) (by decide) (backOf (W := 0) (rm1 l Z a0 hw [] cc h n0) hZ (hw _ (List.mem_of_getElem? (i := 15) rfl)) (hw _ (List.mem_of_getElem? (i := 14) rfl)) (by decide) (by decide)) (g := (mkF m 129 #[s0, s1, s2, s3, s4, s5, .val (.int cc)] [(.int cc)])) rfl (by rw [hml]; rfl) (argsL := [(.int cc)]) (rest := []) (lenOf pd_0_0 rfl) rfl (by show 2 * 0 + _ ≤ _; exact Nat.le_of_eq rfl) (hb hby at_129) (fun _ _ => ⟨rfl, eT, hcl, hsl⟩)
  dsimp only [Pt.U, Pt.locs, Pt.cells, Pt.slots] at X3 l3 y3 z3 st3 hQ3
  subst l3 y3 z3
  obtain ⟨rfl, N3q, e3⟩ := hQ3
  obtain ⟨_, _, ⟨T4, L4, k4, n4⟩, -, X4, ⟨Lc4, hQ4, l4, y4, z4⟩, st4⟩ := Jvm.LawKit.callS X3 hx (y := (⟨"com/example/libxdm/libxdm/model/XmlNamesIsCharacterPinLaw", "expected", "(I)Z"⟩ : MethodName)) hown (mvT hZ (hw _ (List.mem_of_getElem? (i := 18) rfl))) (mvT hZ (hw _ (List.mem_of_getElem? (i := 19) rfl))) (mvT hZ (hw _ (List.mem_of_getElem? (i := 20) rfl))) (mvT hZ (hw _ (List.mem_of_getElem? (i := 21) rfl))) (by decide) (backOf (W := 1) (rm2 l Z a0 hw [] cc h n0) hZ (hw _ (List.mem_of_getElem? (i := 21) rfl)) (hw _ (List.mem_of_getElem? (i := 20) rfl)) (by decide) (by decide)) (g := (mkF m 134 #[s0, s1, s2, s3, s4, s5, .val (.int cc)] [(.int cc), (.int (v1_0 cc))])) rfl (by rw [hml]; rfl) (argsL := [(.int cc)]) (rest := [(.int (v1_0 cc))]) (lenOf pd_0_0 rfl) rfl (by show 2 * 0 + _ ≤ _; exact Nat.le_of_eq rfl) (hb hby at_134) (fun _ _ => ⟨rfl, e3, hcl, hsl⟩)
  dsimp only [Pt.U, Pt.locs, Pt.cells, Pt.slots] at X4 l4 y4 z4 st4 hQ4
  subst l4 y4 z4
  obtain ⟨rfl, N4q, e4⟩ := hQ4
  have N4 := Fr.app (Fr.app N0 N3q) N4q
  obtain ⟨fs, hr, hrun, hended, hW, hsame⟩ := X4.leave (v := some (.int (1 : Int32))) (fun h => by rw [hret] at h; cases h)
  refine ⟨_, _, ?_, hrun, hended, hW, hsame, N4⟩
  show Steps p.tables e below (T.setTop (mkF m 127 #[s0, s1, s2, s3, s4, s5, .val (.int cc)] [])) _
  refine XS.iload X.here hx rfl (hb hby at_127) rfl ?_
  show Steps p.tables e below (T.setTop (mkF m 129 #[s0, s1, s2, s3, s4, s5, .val (.int cc)] [(.int cc)])) _
  refine st3 _ ?_
  show Steps p.tables e below (T3.setTop (mkF m 132 #[s0, s1, s2, s3, s4, s5, .val (.int cc)] [(.int (v1_0 cc))])) _
  refine XS.iload X3.here hx rfl (hb hby at_132) rfl ?_
  show Steps p.tables e below (T3.setTop (mkF m 134 #[s0, s1, s2, s3, s4, s5, .val (.int cc)] [(.int cc), (.int (v1_0 cc))])) _
  refine st4 _ ?_
  show Steps p.tables e below (T4.setTop (mkF m 137 #[s0, s1, s2, s3, s4, s5, .val (.int cc)] [(.int (v2_0 cc)), (.int (v1_0 cc))])) _
  refine XS.icmpNo X4.here hx rfl (hb hby at_137) rfl (teq (own_same cc)).2 ?_
  show Steps p.tables e below (T4.setTop (mkF m 140 #[s0, s1, s2, s3, s4, s5, .val (.int cc)] [])) _
  refine XS.iconst X4.here hx rfl (hb hby at_140) ?_
  show Steps p.tables e below (T4.setTop (mkF m 141 #[s0, s1, s2, s3, s4, s5, .val (.int cc)] [(.int (1 : Int32))])) _
  refine XS.goto X4.here hx rfl (pc0 := 141) (pc' := 145) rfl (hb hby at_141) (by decide) (by decide) ?_
  show Steps p.tables e below (T4.setTop (mkF m 145 #[s0, s1, s2, s3, s4, s5, .val (.int cc)] [(.int (1 : Int32))])) _
  exact retN X4 hx (t := .boolean) hret (by simp) (hb hby at_145) hr
def Q0 (h0 : Heap) (n0 : Nat) (v : Option Value) (h : Heap) (L : List Loc) : Prop := v = some (.int (1 : Int32)) ∧ Fr n0 L
set_option maxRecDepth 65536 in
set_option maxHeartbeats 40000000 in
theorem rm0 (l : Launch) (Z : State) (a0 : Array Value) (hw : ∀ d ∈ tables_1, d.before a0 Z = true) (ws : List Jvm.Cond) (p1 : Int32) (p2 : Int32) (p3 : Int32) (h0 : Heap) (n0 : Nat) (Z0 : n0 ≤ h0.size) :
    MetFree l x (head1 (Jvm.Cond.code x code maxLocals ret :: ws) room_1) (fun a U => a = #[(.int p1), (.int p2), (.int p3)] ∧ Z.Warmed39 U.vm ∧ U.heap = h0) (fun _ _ _ _ _ => True) (fun _ U o U' => ∃ v L, o = .returned v ∧ Q0 h0 n0 v U'.heap L ∧ FrameEnd U o U' L room_1.cells room_1.slots) := by
  refine MetFree.of_bodySF (plainFor_of_name pn_0) hisR ?_
  intro p e s m args below meth c s₁ Bd hml0 hP hK
  obtain ⟨rfl, hZ, hh⟩ := hP
  have hx := Bd.exec
  have hby := Bd.bytes
  have hlk := Bd.notSynchronized
  have hret : meth.sig.returnType = some .boolean := Bd.returns
  have hml : c.maxLocals = 7 := hml0
  have hown : s.vm.findClass "com/example/libxdm/libxdm/model/XmlNamesIsCharacterPinLaw" = some m.cls := findClass_of_methodNamed Bd.named
  have X0 : Stand p l e room_1 s m #[(.int p1), (.int p2), (.int p3)] below meth c s₁ [] 0 0 := Stand.of_body Bd
  have e0 : s₁.heap = h0 := by rw [← hh, Bd.state]; rfl
  have N0 := Fr.nil n0
  have pre0 : ∀ t, Steps p.tables e below (s₁.setTop (mkF m 0 #[.val (.int p1), .val (.int p2), .val (.int p3), .unset, .unset, .unset, .unset] [])) t → Steps p.tables e below (s₁.setTop (entryFrame m #[(.int p1), (.int p2), (.int p3)] maxLocals)) t := fun t k => castTop (ef_0 m p1 p2 p3) k
  by_cases hc18 : (p2 &&& (15 : Int32)) = (0 : Int32)
  · obtain ⟨T1, h1, X1, e1, E1, A1, st1⟩ := own_new X0 hx hZ e0 (hw _ (List.mem_of_getElem? (i := 0) rfl)) (g := (mkF m 2 #[.val (.int p1), .val (.int p2), .val (.int p3), .unset, .unset, .unset, .unset] [(.int (16 : Int32))])) rfl (hb hby at_2) rfl (by decide) (k := 16) (by decide) (by decide) (by decide) (by decide)
    obtain ⟨a1, g1⟩ : ∃ z, z = h0.size := ⟨_, rfl⟩
    rw [← g1] at A1 st1
    have ga1 : n0 ≤ a1 := by rw [g1]; exact Z0
    have Z1 : n0 ≤ h1.size := Nat.le_trans Z0 E1.1
    obtain ⟨T2, h2, L2, X2, e2, N2, A2, K2, st2⟩ := own_put X1 hx hZ e1 A1 N0 ga1 (by decide) (by decide) (g := (mkF m 7 #[.val (.int p1), .val (.int p2), .val (.int p3), .unset, .unset, .unset, .unset] [(.int (0 : Int32)), (.int (0 : Int32)), (.ref a1), (.ref a1)])) rfl rfl (hb hby at_7)
    have Z2 : n0 ≤ h2.size := Nat.le_trans Z1 K2.1
    obtain ⟨T3, h3, L3, X3, e3, N3, A3, K3, st3⟩ := own_put X2 hx hZ e2 A2 N2 ga1 (by decide) (by decide) (g := (mkF m 12 #[.val (.int p1), .val (.int p2), .val (.int p3), .unset, .unset, .unset, .unset] [(.int (9 : Int32)), (.int (1 : Int32)), (.ref a1), (.ref a1)])) rfl rfl (hb hby at_12)
    have Z3 : n0 ≤ h3.size := Nat.le_trans Z2 K3.1
    obtain ⟨T4, h4, L4, X4, e4, N4, A4, K4, st4⟩ := own_put X3 hx hZ e3 A3 N3 ga1 (by decide) (by decide) (g := (mkF m 17 #[.val (.int p1), .val (.int p2), .val (.int p3), .unset, .unset, .unset, .unset] [(.int (10 : Int32)), (.int (2 : Int32)), (.ref a1), (.ref a1)])) rfl rfl (hb hby at_17)
    have Z4 : n0 ≤ h4.size := Nat.le_trans Z3 K4.1
    obtain ⟨T5, h5, L5, X5, e5, N5, A5, K5, st5⟩ := own_put X4 hx hZ e4 A4 N4 ga1 (by decide) (by decide) (g := (mkF m 22 #[.val (.int p1), .val (.int p2), .val (.int p3), .unset, .unset, .unset, .unset] [(.int (13 : Int32)), (.int (3 : Int32)), (.ref a1), (.ref a1)])) rfl rfl (hb hby at_22)
    have Z5 : n0 ≤ h5.size := Nat.le_trans Z4 K5.1
    obtain ⟨T6, h6, L6, X6, e6, N6, A6, K6, st6⟩ := own_put X5 hx hZ e5 A5 N5 ga1 (by decide) (by decide) (g := (mkF m 27 #[.val (.int p1), .val (.int p2), .val (.int p3), .unset, .unset, .unset, .unset] [(.int (32 : Int32)), (.int (4 : Int32)), (.ref a1), (.ref a1)])) rfl rfl (hb hby at_27)
    have Z6 : n0 ≤ h6.size := Nat.le_trans Z5 K6.1
    obtain ⟨T7, h7, L7, X7, e7, N7, A7, K7, st7⟩ := own_put X6 hx hZ e6 A6 N6 ga1 (by decide) (by decide) (g := (mkF m 32 #[.val (.int p1), .val (.int p2), .val (.int p3), .unset, .unset, .unset, .unset] [(.int (55295 : Int32)), (.int (5 : Int32)), (.ref a1), (.ref a1)])) rfl rfl (hb hby at_32)
    have Z7 : n0 ≤ h7.size := Nat.le_trans Z6 K7.1
    obtain ⟨T8, h8, L8, X8, e8, N8, A8, K8, st8⟩ := own_put X7 hx hZ e7 A7 N7 ga1 (by decide) (by decide) (g := (mkF m 38 #[.val (.int p1), .val (.int p2), .val (.int p3), .unset, .unset, .unset, .unset] [(.int (55296 : Int32)), (.int (6 : Int32)), (.ref a1), (.ref a1)])) rfl rfl (hb hby at_38)
    have Z8 : n0 ≤ h8.size := Nat.le_trans Z7 K8.1
    obtain ⟨T9, h9, L9, X9, e9, N9, A9, K9, st9⟩ := own_put X8 hx hZ e8 A8 N8 ga1 (by decide) (by decide) (g := (mkF m 44 #[.val (.int p1), .val (.int p2), .val (.int p3), .unset, .unset, .unset, .unset] [(.int (57343 : Int32)), (.int (7 : Int32)), (.ref a1), (.ref a1)])) rfl rfl (hb hby at_44)
    have Z9 : n0 ≤ h9.size := Nat.le_trans Z8 K9.1
    obtain ⟨T10, h10, L10, X10, e10, N10, A10, K10, st10⟩ := own_put X9 hx hZ e9 A9 N9 ga1 (by decide) (by decide) (g := (mkF m 50 #[.val (.int p1), .val (.int p2), .val (.int p3), .unset, .unset, .unset, .unset] [(.int (57344 : Int32)), (.int (8 : Int32)), (.ref a1), (.ref a1)])) rfl rfl (hb hby at_50)
    have Z10 : n0 ≤ h10.size := Nat.le_trans Z9 K10.1
    obtain ⟨T11, h11, L11, X11, e11, N11, A11, K11, st11⟩ := own_put X10 hx hZ e10 A10 N10 ga1 (by decide) (by decide) (g := (mkF m 56 #[.val (.int p1), .val (.int p2), .val (.int p3), .unset, .unset, .unset, .unset] [(.int (65533 : Int32)), (.int (9 : Int32)), (.ref a1), (.ref a1)])) rfl rfl (hb hby at_56)
    have Z11 : n0 ≤ h11.size := Nat.le_trans Z10 K11.1
    obtain ⟨T12, h12, L12, X12, e12, N12, A12, K12, st12⟩ := own_put X11 hx hZ e11 A11 N11 ga1 (by decide) (by decide) (g := (mkF m 62 #[.val (.int p1), .val (.int p2), .val (.int p3), .unset, .unset, .unset, .unset] [(.int (65535 : Int32)), (.int (10 : Int32)), (.ref a1), (.ref a1)])) rfl rfl (hb hby at_62)
    have Z12 : n0 ≤ h12.size := Nat.le_trans Z11 K12.1
    obtain ⟨T13, h13, L13, X13, e13, N13, A13, K13, st13⟩ := own_put X12 hx hZ e12 A12 N12 ga1 (by decide) (by decide) (g := (mkF m 68 #[.val (.int p1), .val (.int p2), .val (.int p3), .unset, .unset, .unset, .unset] [(.int (65536 : Int32)), (.int (11 : Int32)), (.ref a1), (.ref a1)])) rfl rfl (hb hby at_68)
    have Z13 : n0 ≤ h13.size := Nat.le_trans Z12 K13.1
    obtain ⟨T14, h14, L14, X14, e14, N14, A14, K14, st14⟩ := own_put X13 hx hZ e13 A13 N13 ga1 (by decide) (by decide) (g := (mkF m 74 #[.val (.int p1), .val (.int p2), .val (.int p3), .unset, .unset, .unset, .unset] [(.int (1114111 : Int32)), (.int (12 : Int32)), (.ref a1), (.ref a1)])) rfl rfl (hb hby at_74)
    have Z14 : n0 ≤ h14.size := Nat.le_trans Z13 K14.1
    obtain ⟨T15, h15, L15, X15, e15, N15, A15, K15, st15⟩ := own_put X14 hx hZ e14 A14 N14 ga1 (by decide) (by decide) (g := (mkF m 80 #[.val (.int p1), .val (.int p2), .val (.int p3), .unset, .unset, .unset, .unset] [(.int (1114112 : Int32)), (.int (13 : Int32)), (.ref a1), (.ref a1)])) rfl rfl (hb hby at_80)
    have Z15 : n0 ≤ h15.size := Nat.le_trans Z14 K15.1
    obtain ⟨T16, h16, L16, X16, e16, N16, A16, K16, st16⟩ := own_put X15 hx hZ e15 A15 N15 ga1 (by decide) (by decide) (g := (mkF m 86 #[.val (.int p1), .val (.int p2), .val (.int p3), .unset, .unset, .unset, .unset] [(.int (-2147483648 : Int32)), (.int (14 : Int32)), (.ref a1), (.ref a1)])) rfl rfl (hb hby at_86)
    have Z16 : n0 ≤ h16.size := Nat.le_trans Z15 K16.1
    obtain ⟨T17, h17, L17, X17, e17, N17, A17, K17, st17⟩ := own_put X16 hx hZ e16 A16 N16 ga1 (by decide) (by decide) (g := (mkF m 92 #[.val (.int p1), .val (.int p2), .val (.int p3), .unset, .unset, .unset, .unset] [(.int (2147483647 : Int32)), (.int (15 : Int32)), (.ref a1), (.ref a1)])) rfl rfl (hb hby at_92)
    have Z17 : n0 ≤ h17.size := Nat.le_trans Z16 K17.1
    obtain ⟨u, L, st, hrun, hended, hW, hsame, N⟩ := tail0 X17 hx hZ hw hby hml hown hret hlk h17 e17 n0 N17 (by decide) (by decide) (.val (.int p1)) (.val (.int p2)) (.val (.int p3)) (.val (.ref a1)) (.val (.int (p2 &&& (15 : Int32)))) (.val (.int ((p3 &&& (3 : Int32)) - (1 : Int32)))) p1
    refine ⟨_, _, pre0 _ ?_, hrun, hended, _, _, rfl, ⟨rfl, N⟩, ⟨_, rfl⟩, hW, hsame.mono (by decide) (by decide)⟩
    show Steps p.tables e below (s₁.setTop (mkF m 0 #[.val (.int p1), .val (.int p2), .val (.int p3), .unset, .unset, .unset, .unset] [])) _
    refine XS.bipush X0.here hx rfl (hb hby at_0) ?_
    show Steps p.tables e below (s₁.setTop (mkF m 2 #[.val (.int p1), .val (.int p2), .val (.int p3), .unset, .unset, .unset, .unset] [(.int (16 : Int32))])) _
    refine st1 _ ?_
    show Steps p.tables e below (T1.setTop (mkF m 4 #[.val (.int p1), .val (.int p2), .val (.int p3), .unset, .unset, .unset, .unset] [(.ref a1)])) _
    refine XS.dup X1.here hx rfl (hb hby at_4) rfl rfl ?_
    show Steps p.tables e below (T1.setTop (mkF m 5 #[.val (.int p1), .val (.int p2), .val (.int p3), .unset, .unset, .unset, .unset] [(.ref a1), (.ref a1)])) _
    refine XS.iconst X1.here hx rfl (hb hby at_5) ?_
    show Steps p.tables e below (T1.setTop (mkF m 6 #[.val (.int p1), .val (.int p2), .val (.int p3), .unset, .unset, .unset, .unset] [(.int (0 : Int32)), (.ref a1), (.ref a1)])) _
    refine XS.iconst X1.here hx rfl (hb hby at_6) ?_
    show Steps p.tables e below (T1.setTop (mkF m 7 #[.val (.int p1), .val (.int p2), .val (.int p3), .unset, .unset, .unset, .unset] [(.int (0 : Int32)), (.int (0 : Int32)), (.ref a1), (.ref a1)])) _
    refine st2 _ ?_
    show Steps p.tables e below (T2.setTop (mkF m 8 #[.val (.int p1), .val (.int p2), .val (.int p3), .unset, .unset, .unset, .unset] [(.ref a1)])) _
    refine XS.dup X2.here hx rfl (hb hby at_8) rfl rfl ?_
    show Steps p.tables e below (T2.setTop (mkF m 9 #[.val (.int p1), .val (.int p2), .val (.int p3), .unset, .unset, .unset, .unset] [(.ref a1), (.ref a1)])) _
    refine XS.iconst X2.here hx rfl (hb hby at_9) ?_
    show Steps p.tables e below (T2.setTop (mkF m 10 #[.val (.int p1), .val (.int p2), .val (.int p3), .unset, .unset, .unset, .unset] [(.int (1 : Int32)), (.ref a1), (.ref a1)])) _
    refine XS.bipush X2.here hx rfl (hb hby at_10) ?_
    show Steps p.tables e below (T2.setTop (mkF m 12 #[.val (.int p1), .val (.int p2), .val (.int p3), .unset, .unset, .unset, .unset] [(.int (9 : Int32)), (.int (1 : Int32)), (.ref a1), (.ref a1)])) _
    refine st3 _ ?_
    show Steps p.tables e below (T3.setTop (mkF m 13 #[.val (.int p1), .val (.int p2), .val (.int p3), .unset, .unset, .unset, .unset] [(.ref a1)])) _
    refine XS.dup X3.here hx rfl (hb hby at_13) rfl rfl ?_
    show Steps p.tables e below (T3.setTop (mkF m 14 #[.val (.int p1), .val (.int p2), .val (.int p3), .unset, .unset, .unset, .unset] [(.ref a1), (.ref a1)])) _
    refine XS.iconst X3.here hx rfl (hb hby at_14) ?_
    show Steps p.tables e below (T3.setTop (mkF m 15 #[.val (.int p1), .val (.int p2), .val (.int p3), .unset, .unset, .unset, .unset] [(.int (2 : Int32)), (.ref a1), (.ref a1)])) _
    refine XS.bipush X3.here hx rfl (hb hby at_15) ?_
    show Steps p.tables e below (T3.setTop (mkF m 17 #[.val (.int p1), .val (.int p2), .val (.int p3), .unset, .unset, .unset, .unset] [(.int (10 : Int32)), (.int (2 : Int32)), (.ref a1), (.ref a1)])) _
    refine st4 _ ?_
    show Steps p.tables e below (T4.setTop (mkF m 18 #[.val (.int p1), .val (.int p2), .val (.int p3), .unset, .unset, .unset, .unset] [(.ref a1)])) _
    refine XS.dup X4.here hx rfl (hb hby at_18) rfl rfl ?_
    show Steps p.tables e below (T4.setTop (mkF m 19 #[.val (.int p1), .val (.int p2), .val (.int p3), .unset, .unset, .unset, .unset] [(.ref a1), (.ref a1)])) _
    refine XS.iconst X4.here hx rfl (hb hby at_19) ?_
    show Steps p.tables e below (T4.setTop (mkF m 20 #[.val (.int p1), .val (.int p2), .val (.int p3), .unset, .unset, .unset, .unset] [(.int (3 : Int32)), (.ref a1), (.ref a1)])) _
    refine XS.bipush X4.here hx rfl (hb hby at_20) ?_
    show Steps p.tables e below (T4.setTop (mkF m 22 #[.val (.int p1), .val (.int p2), .val (.int p3), .unset, .unset, .unset, .unset] [(.int (13 : Int32)), (.int (3 : Int32)), (.ref a1), (.ref a1)])) _
    refine st5 _ ?_
    show Steps p.tables e below (T5.setTop (mkF m 23 #[.val (.int p1), .val (.int p2), .val (.int p3), .unset, .unset, .unset, .unset] [(.ref a1)])) _
    refine XS.dup X5.here hx rfl (hb hby at_23) rfl rfl ?_
    show Steps p.tables e below (T5.setTop (mkF m 24 #[.val (.int p1), .val (.int p2), .val (.int p3), .unset, .unset, .unset, .unset] [(.ref a1), (.ref a1)])) _
    refine XS.iconst X5.here hx rfl (hb hby at_24) ?_
    show Steps p.tables e below (T5.setTop (mkF m 25 #[.val (.int p1), .val (.int p2), .val (.int p3), .unset, .unset, .unset, .unset] [(.int (4 : Int32)), (.ref a1), (.ref a1)])) _
    refine XS.bipush X5.here hx rfl (hb hby at_25) ?_
    show Steps p.tables e below (T5.setTop (mkF m 27 #[.val (.int p1), .val (.int p2), .val (.int p3), .unset, .unset, .unset, .unset] [(.int (32 : Int32)), (.int (4 : Int32)), (.ref a1), (.ref a1)])) _
    refine st6 _ ?_
    show Steps p.tables e below (T6.setTop (mkF m 28 #[.val (.int p1), .val (.int p2), .val (.int p3), .unset, .unset, .unset, .unset] [(.ref a1)])) _
    refine XS.dup X6.here hx rfl (hb hby at_28) rfl rfl ?_
    show Steps p.tables e below (T6.setTop (mkF m 29 #[.val (.int p1), .val (.int p2), .val (.int p3), .unset, .unset, .unset, .unset] [(.ref a1), (.ref a1)])) _
    refine XS.iconst X6.here hx rfl (hb hby at_29) ?_
    show Steps p.tables e below (T6.setTop (mkF m 30 #[.val (.int p1), .val (.int p2), .val (.int p3), .unset, .unset, .unset, .unset] [(.int (5 : Int32)), (.ref a1), (.ref a1)])) _
    refine X6.ldcI hx hown (v := (55295 : Int32)) (mvT hZ (hw _ (List.mem_of_getElem? (i := 1) rfl))) rfl (hb hby at_30) ?_
    show Steps p.tables e below (T6.setTop (mkF m 32 #[.val (.int p1), .val (.int p2), .val (.int p3), .unset, .unset, .unset, .unset] [(.int (55295 : Int32)), (.int (5 : Int32)), (.ref a1), (.ref a1)])) _
    refine st7 _ ?_
    show Steps p.tables e below (T7.setTop (mkF m 33 #[.val (.int p1), .val (.int p2), .val (.int p3), .unset, .unset, .unset, .unset] [(.ref a1)])) _
    refine XS.dup X7.here hx rfl (hb hby at_33) rfl rfl ?_
    show Steps p.tables e below (T7.setTop (mkF m 34 #[.val (.int p1), .val (.int p2), .val (.int p3), .unset, .unset, .unset, .unset] [(.ref a1), (.ref a1)])) _
    refine XS.bipush X7.here hx rfl (hb hby at_34) ?_
    show Steps p.tables e below (T7.setTop (mkF m 36 #[.val (.int p1), .val (.int p2), .val (.int p3), .unset, .unset, .unset, .unset] [(.int (6 : Int32)), (.ref a1), (.ref a1)])) _
    refine X7.ldcI hx hown (v := (55296 : Int32)) (mvT hZ (hw _ (List.mem_of_getElem? (i := 2) rfl))) rfl (hb hby at_36) ?_
    show Steps p.tables e below (T7.setTop (mkF m 38 #[.val (.int p1), .val (.int p2), .val (.int p3), .unset, .unset, .unset, .unset] [(.int (55296 : Int32)), (.int (6 : Int32)), (.ref a1), (.ref a1)])) _
    refine st8 _ ?_
    show Steps p.tables e below (T8.setTop (mkF m 39 #[.val (.int p1), .val (.int p2), .val (.int p3), .unset, .unset, .unset, .unset] [(.ref a1)])) _
    refine XS.dup X8.here hx rfl (hb hby at_39) rfl rfl ?_
    show Steps p.tables e below (T8.setTop (mkF m 40 #[.val (.int p1), .val (.int p2), .val (.int p3), .unset, .unset, .unset, .unset] [(.ref a1), (.ref a1)])) _
    refine XS.bipush X8.here hx rfl (hb hby at_40) ?_
    show Steps p.tables e below (T8.setTop (mkF m 42 #[.val (.int p1), .val (.int p2), .val (.int p3), .unset, .unset, .unset, .unset] [(.int (7 : Int32)), (.ref a1), (.ref a1)])) _
    refine X8.ldcI hx hown (v := (57343 : Int32)) (mvT hZ (hw _ (List.mem_of_getElem? (i := 3) rfl))) rfl (hb hby at_42) ?_
    show Steps p.tables e below (T8.setTop (mkF m 44 #[.val (.int p1), .val (.int p2), .val (.int p3), .unset, .unset, .unset, .unset] [(.int (57343 : Int32)), (.int (7 : Int32)), (.ref a1), (.ref a1)])) _
    refine st9 _ ?_
    show Steps p.tables e below (T9.setTop (mkF m 45 #[.val (.int p1), .val (.int p2), .val (.int p3), .unset, .unset, .unset, .unset] [(.ref a1)])) _
    refine XS.dup X9.here hx rfl (hb hby at_45) rfl rfl ?_
    show Steps p.tables e below (T9.setTop (mkF m 46 #[.val (.int p1), .val (.int p2), .val (.int p3), .unset, .unset, .unset, .unset] [(.ref a1), (.ref a1)])) _
    refine XS.bipush X9.here hx rfl (hb hby at_46) ?_
    show Steps p.tables e below (T9.setTop (mkF m 48 #[.val (.int p1), .val (.int p2), .val (.int p3), .unset, .unset, .unset, .unset] [(.int (8 : Int32)), (.ref a1), (.ref a1)])) _
    refine X9.ldcI hx hown (v := (57344 : Int32)) (mvT hZ (hw _ (List.mem_of_getElem? (i := 4) rfl))) rfl (hb hby at_48) ?_
    show Steps p.tables e below (T9.setTop (mkF m 50 #[.val (.int p1), .val (.int p2), .val (.int p3), .unset, .unset, .unset, .unset] [(.int (57344 : Int32)), (.int (8 : Int32)), (.ref a1), (.ref a1)])) _
    refine st10 _ ?_
    show Steps p.tables e below (T10.setTop (mkF m 51 #[.val (.int p1), .val (.int p2), .val (.int p3), .unset, .unset, .unset, .unset] [(.ref a1)])) _
    refine XS.dup X10.here hx rfl (hb hby at_51) rfl rfl ?_
    show Steps p.tables e below (T10.setTop (mkF m 52 #[.val (.int p1), .val (.int p2), .val (.int p3), .unset, .unset, .unset, .unset] [(.ref a1), (.ref a1)])) _
    refine XS.bipush X10.here hx rfl (hb hby at_52) ?_
    show Steps p.tables e below (T10.setTop (mkF m 54 #[.val (.int p1), .val (.int p2), .val (.int p3), .unset, .unset, .unset, .unset] [(.int (9 : Int32)), (.ref a1), (.ref a1)])) _
    refine X10.ldcI hx hown (v := (65533 : Int32)) (mvT hZ (hw _ (List.mem_of_getElem? (i := 5) rfl))) rfl (hb hby at_54) ?_
    show Steps p.tables e below (T10.setTop (mkF m 56 #[.val (.int p1), .val (.int p2), .val (.int p3), .unset, .unset, .unset, .unset] [(.int (65533 : Int32)), (.int (9 : Int32)), (.ref a1), (.ref a1)])) _
    refine st11 _ ?_
    show Steps p.tables e below (T11.setTop (mkF m 57 #[.val (.int p1), .val (.int p2), .val (.int p3), .unset, .unset, .unset, .unset] [(.ref a1)])) _
    refine XS.dup X11.here hx rfl (hb hby at_57) rfl rfl ?_
    show Steps p.tables e below (T11.setTop (mkF m 58 #[.val (.int p1), .val (.int p2), .val (.int p3), .unset, .unset, .unset, .unset] [(.ref a1), (.ref a1)])) _
    refine XS.bipush X11.here hx rfl (hb hby at_58) ?_
    show Steps p.tables e below (T11.setTop (mkF m 60 #[.val (.int p1), .val (.int p2), .val (.int p3), .unset, .unset, .unset, .unset] [(.int (10 : Int32)), (.ref a1), (.ref a1)])) _
    refine X11.ldcI hx hown (v := (65535 : Int32)) (mvT hZ (hw _ (List.mem_of_getElem? (i := 6) rfl))) rfl (hb hby at_60) ?_
    show Steps p.tables e below (T11.setTop (mkF m 62 #[.val (.int p1), .val (.int p2), .val (.int p3), .unset, .unset, .unset, .unset] [(.int (65535 : Int32)), (.int (10 : Int32)), (.ref a1), (.ref a1)])) _
    refine st12 _ ?_
    show Steps p.tables e below (T12.setTop (mkF m 63 #[.val (.int p1), .val (.int p2), .val (.int p3), .unset, .unset, .unset, .unset] [(.ref a1)])) _
    refine XS.dup X12.here hx rfl (hb hby at_63) rfl rfl ?_
    show Steps p.tables e below (T12.setTop (mkF m 64 #[.val (.int p1), .val (.int p2), .val (.int p3), .unset, .unset, .unset, .unset] [(.ref a1), (.ref a1)])) _
    refine XS.bipush X12.here hx rfl (hb hby at_64) ?_
    show Steps p.tables e below (T12.setTop (mkF m 66 #[.val (.int p1), .val (.int p2), .val (.int p3), .unset, .unset, .unset, .unset] [(.int (11 : Int32)), (.ref a1), (.ref a1)])) _
    refine X12.ldcI hx hown (v := (65536 : Int32)) (mvT hZ (hw _ (List.mem_of_getElem? (i := 7) rfl))) rfl (hb hby at_66) ?_
    show Steps p.tables e below (T12.setTop (mkF m 68 #[.val (.int p1), .val (.int p2), .val (.int p3), .unset, .unset, .unset, .unset] [(.int (65536 : Int32)), (.int (11 : Int32)), (.ref a1), (.ref a1)])) _
    refine st13 _ ?_
    show Steps p.tables e below (T13.setTop (mkF m 69 #[.val (.int p1), .val (.int p2), .val (.int p3), .unset, .unset, .unset, .unset] [(.ref a1)])) _
    refine XS.dup X13.here hx rfl (hb hby at_69) rfl rfl ?_
    show Steps p.tables e below (T13.setTop (mkF m 70 #[.val (.int p1), .val (.int p2), .val (.int p3), .unset, .unset, .unset, .unset] [(.ref a1), (.ref a1)])) _
    refine XS.bipush X13.here hx rfl (hb hby at_70) ?_
    show Steps p.tables e below (T13.setTop (mkF m 72 #[.val (.int p1), .val (.int p2), .val (.int p3), .unset, .unset, .unset, .unset] [(.int (12 : Int32)), (.ref a1), (.ref a1)])) _
    refine X13.ldcI hx hown (v := (1114111 : Int32)) (mvT hZ (hw _ (List.mem_of_getElem? (i := 8) rfl))) rfl (hb hby at_72) ?_
    show Steps p.tables e below (T13.setTop (mkF m 74 #[.val (.int p1), .val (.int p2), .val (.int p3), .unset, .unset, .unset, .unset] [(.int (1114111 : Int32)), (.int (12 : Int32)), (.ref a1), (.ref a1)])) _
    refine st14 _ ?_
    show Steps p.tables e below (T14.setTop (mkF m 75 #[.val (.int p1), .val (.int p2), .val (.int p3), .unset, .unset, .unset, .unset] [(.ref a1)])) _
    refine XS.dup X14.here hx rfl (hb hby at_75) rfl rfl ?_
    show Steps p.tables e below (T14.setTop (mkF m 76 #[.val (.int p1), .val (.int p2), .val (.int p3), .unset, .unset, .unset, .unset] [(.ref a1), (.ref a1)])) _
    refine XS.bipush X14.here hx rfl (hb hby at_76) ?_
    show Steps p.tables e below (T14.setTop (mkF m 78 #[.val (.int p1), .val (.int p2), .val (.int p3), .unset, .unset, .unset, .unset] [(.int (13 : Int32)), (.ref a1), (.ref a1)])) _
    refine X14.ldcI hx hown (v := (1114112 : Int32)) (mvT hZ (hw _ (List.mem_of_getElem? (i := 9) rfl))) rfl (hb hby at_78) ?_
    show Steps p.tables e below (T14.setTop (mkF m 80 #[.val (.int p1), .val (.int p2), .val (.int p3), .unset, .unset, .unset, .unset] [(.int (1114112 : Int32)), (.int (13 : Int32)), (.ref a1), (.ref a1)])) _
    refine st15 _ ?_
    show Steps p.tables e below (T15.setTop (mkF m 81 #[.val (.int p1), .val (.int p2), .val (.int p3), .unset, .unset, .unset, .unset] [(.ref a1)])) _
    refine XS.dup X15.here hx rfl (hb hby at_81) rfl rfl ?_
    show Steps p.tables e below (T15.setTop (mkF m 82 #[.val (.int p1), .val (.int p2), .val (.int p3), .unset, .unset, .unset, .unset] [(.ref a1), (.ref a1)])) _
    refine XS.bipush X15.here hx rfl (hb hby at_82) ?_
    show Steps p.tables e below (T15.setTop (mkF m 84 #[.val (.int p1), .val (.int p2), .val (.int p3), .unset, .unset, .unset, .unset] [(.int (14 : Int32)), (.ref a1), (.ref a1)])) _
    refine X15.ldcI hx hown (v := (-2147483648 : Int32)) (mvT hZ (hw _ (List.mem_of_getElem? (i := 10) rfl))) rfl (hb hby at_84) ?_
    show Steps p.tables e below (T15.setTop (mkF m 86 #[.val (.int p1), .val (.int p2), .val (.int p3), .unset, .unset, .unset, .unset] [(.int (-2147483648 : Int32)), (.int (14 : Int32)), (.ref a1), (.ref a1)])) _
    refine st16 _ ?_
    show Steps p.tables e below (T16.setTop (mkF m 87 #[.val (.int p1), .val (.int p2), .val (.int p3), .unset, .unset, .unset, .unset] [(.ref a1)])) _
    refine XS.dup X16.here hx rfl (hb hby at_87) rfl rfl ?_
    show Steps p.tables e below (T16.setTop (mkF m 88 #[.val (.int p1), .val (.int p2), .val (.int p3), .unset, .unset, .unset, .unset] [(.ref a1), (.ref a1)])) _
    refine XS.bipush X16.here hx rfl (hb hby at_88) ?_
    show Steps p.tables e below (T16.setTop (mkF m 90 #[.val (.int p1), .val (.int p2), .val (.int p3), .unset, .unset, .unset, .unset] [(.int (15 : Int32)), (.ref a1), (.ref a1)])) _
    refine X16.ldcI hx hown (v := (2147483647 : Int32)) (mvT hZ (hw _ (List.mem_of_getElem? (i := 11) rfl))) rfl (hb hby at_90) ?_
    show Steps p.tables e below (T16.setTop (mkF m 92 #[.val (.int p1), .val (.int p2), .val (.int p3), .unset, .unset, .unset, .unset] [(.int (2147483647 : Int32)), (.int (15 : Int32)), (.ref a1), (.ref a1)])) _
    refine st17 _ ?_
    show Steps p.tables e below (T17.setTop (mkF m 93 #[.val (.int p1), .val (.int p2), .val (.int p3), .unset, .unset, .unset, .unset] [(.ref a1)])) _
    refine XS.astoreN X17.here hx rfl (hb hby at_93) rfl rfl (l' := #[.val (.int p1), .val (.int p2), .val (.int p3), .val (.ref a1), .unset, .unset, .unset]) rfl ?_
    show Steps p.tables e below (T17.setTop (mkF m 94 #[.val (.int p1), .val (.int p2), .val (.int p3), .val (.ref a1), .unset, .unset, .unset] [])) _
    refine XS.iloadN X17.here hx rfl (hb hby at_94) rfl ?_
    show Steps p.tables e below (T17.setTop (mkF m 95 #[.val (.int p1), .val (.int p2), .val (.int p3), .val (.ref a1), .unset, .unset, .unset] [(.int p2)])) _
    refine XS.bipush X17.here hx rfl (hb hby at_95) ?_
    show Steps p.tables e below (T17.setTop (mkF m 97 #[.val (.int p1), .val (.int p2), .val (.int p3), .val (.ref a1), .unset, .unset, .unset] [(.int (15 : Int32)), (.int p2)])) _
    refine XS.iand X17.here hx rfl (hb hby at_97) rfl ?_
    show Steps p.tables e below (T17.setTop (mkF m 98 #[.val (.int p1), .val (.int p2), .val (.int p3), .val (.ref a1), .unset, .unset, .unset] [(.int (p2 &&& (15 : Int32)))])) _
    refine XS.istore X17.here hx rfl (hb hby at_98) rfl (l' := #[.val (.int p1), .val (.int p2), .val (.int p3), .val (.ref a1), .val (.int (p2 &&& (15 : Int32))), .unset, .unset]) rfl ?_
    show Steps p.tables e below (T17.setTop (mkF m 100 #[.val (.int p1), .val (.int p2), .val (.int p3), .val (.ref a1), .val (.int (p2 &&& (15 : Int32))), .unset, .unset] [])) _
    refine XS.iloadN X17.here hx rfl (hb hby at_100) rfl ?_
    show Steps p.tables e below (T17.setTop (mkF m 101 #[.val (.int p1), .val (.int p2), .val (.int p3), .val (.ref a1), .val (.int (p2 &&& (15 : Int32))), .unset, .unset] [(.int p3)])) _
    refine XS.iconst X17.here hx rfl (hb hby at_101) ?_
    show Steps p.tables e below (T17.setTop (mkF m 102 #[.val (.int p1), .val (.int p2), .val (.int p3), .val (.ref a1), .val (.int (p2 &&& (15 : Int32))), .unset, .unset] [(.int (3 : Int32)), (.int p3)])) _
    refine XS.iand X17.here hx rfl (hb hby at_102) rfl ?_
    show Steps p.tables e below (T17.setTop (mkF m 103 #[.val (.int p1), .val (.int p2), .val (.int p3), .val (.ref a1), .val (.int (p2 &&& (15 : Int32))), .unset, .unset] [(.int (p3 &&& (3 : Int32)))])) _
    refine XS.iconst X17.here hx rfl (hb hby at_103) ?_
    show Steps p.tables e below (T17.setTop (mkF m 104 #[.val (.int p1), .val (.int p2), .val (.int p3), .val (.ref a1), .val (.int (p2 &&& (15 : Int32))), .unset, .unset] [(.int (1 : Int32)), (.int (p3 &&& (3 : Int32)))])) _
    refine XS.isub X17.here hx rfl (hb hby at_104) rfl ?_
    show Steps p.tables e below (T17.setTop (mkF m 105 #[.val (.int p1), .val (.int p2), .val (.int p3), .val (.ref a1), .val (.int (p2 &&& (15 : Int32))), .unset, .unset] [(.int ((p3 &&& (3 : Int32)) - (1 : Int32)))])) _
    refine XS.istore X17.here hx rfl (hb hby at_105) rfl (l' := #[.val (.int p1), .val (.int p2), .val (.int p3), .val (.ref a1), .val (.int (p2 &&& (15 : Int32))), .val (.int ((p3 &&& (3 : Int32)) - (1 : Int32))), .unset]) rfl ?_
    show Steps p.tables e below (T17.setTop (mkF m 107 #[.val (.int p1), .val (.int p2), .val (.int p3), .val (.ref a1), .val (.int (p2 &&& (15 : Int32))), .val (.int ((p3 &&& (3 : Int32)) - (1 : Int32))), .unset] [])) _
    refine XS.iload X17.here hx rfl (hb hby at_107) rfl ?_
    show Steps p.tables e below (T17.setTop (mkF m 109 #[.val (.int p1), .val (.int p2), .val (.int p3), .val (.ref a1), .val (.int (p2 &&& (15 : Int32))), .val (.int ((p3 &&& (3 : Int32)) - (1 : Int32))), .unset] [(.int (p2 &&& (15 : Int32)))])) _
    refine XS.ifNo X17.here hx rfl (hb hby at_109) rfl ((if0 _ _).trans (teq hc18).2) ?_
    show Steps p.tables e below (T17.setTop (mkF m 112 #[.val (.int p1), .val (.int p2), .val (.int p3), .val (.ref a1), .val (.int (p2 &&& (15 : Int32))), .val (.int ((p3 &&& (3 : Int32)) - (1 : Int32))), .unset] [])) _
    refine XS.iloadN X17.here hx rfl (hb hby at_112) rfl ?_
    show Steps p.tables e below (T17.setTop (mkF m 113 #[.val (.int p1), .val (.int p2), .val (.int p3), .val (.ref a1), .val (.int (p2 &&& (15 : Int32))), .val (.int ((p3 &&& (3 : Int32)) - (1 : Int32))), .unset] [(.int p1)])) _
    refine XS.istore X17.here hx rfl (hb hby at_113) rfl (l' := #[.val (.int p1), .val (.int p2), .val (.int p3), .val (.ref a1), .val (.int (p2 &&& (15 : Int32))), .val (.int ((p3 &&& (3 : Int32)) - (1 : Int32))), .val (.int p1)]) rfl ?_
    show Steps p.tables e below (T17.setTop (mkF m 115 #[.val (.int p1), .val (.int p2), .val (.int p3), .val (.ref a1), .val (.int (p2 &&& (15 : Int32))), .val (.int ((p3 &&& (3 : Int32)) - (1 : Int32))), .val (.int p1)] [])) _
    refine XS.goto X17.here hx rfl (pc0 := 115) (pc' := 127) rfl (hb hby at_115) (by decide) (by decide) ?_
    show Steps p.tables e below (T17.setTop (mkF m 127 #[.val (.int p1), .val (.int p2), .val (.int p3), .val (.ref a1), .val (.int (p2 &&& (15 : Int32))), .val (.int ((p3 &&& (3 : Int32)) - (1 : Int32))), .val (.int p1)] [])) _
    exact st
  · obtain ⟨T1, h1, X1, e1, E1, A1, st1⟩ := own_new X0 hx hZ e0 (hw _ (List.mem_of_getElem? (i := 0) rfl)) (g := (mkF m 2 #[.val (.int p1), .val (.int p2), .val (.int p3), .unset, .unset, .unset, .unset] [(.int (16 : Int32))])) rfl (hb hby at_2) rfl (by decide) (k := 16) (by decide) (by decide) (by decide) (by decide)
    obtain ⟨a1, g1⟩ : ∃ z, z = h0.size := ⟨_, rfl⟩
    rw [← g1] at A1 st1
    have ga1 : n0 ≤ a1 := by rw [g1]; exact Z0
    have Z1 : n0 ≤ h1.size := Nat.le_trans Z0 E1.1
    obtain ⟨T2, h2, L2, X2, e2, N2, A2, K2, st2⟩ := own_put X1 hx hZ e1 A1 N0 ga1 (by decide) (by decide) (g := (mkF m 7 #[.val (.int p1), .val (.int p2), .val (.int p3), .unset, .unset, .unset, .unset] [(.int (0 : Int32)), (.int (0 : Int32)), (.ref a1), (.ref a1)])) rfl rfl (hb hby at_7)
    have Z2 : n0 ≤ h2.size := Nat.le_trans Z1 K2.1
    obtain ⟨T3, h3, L3, X3, e3, N3, A3, K3, st3⟩ := own_put X2 hx hZ e2 A2 N2 ga1 (by decide) (by decide) (g := (mkF m 12 #[.val (.int p1), .val (.int p2), .val (.int p3), .unset, .unset, .unset, .unset] [(.int (9 : Int32)), (.int (1 : Int32)), (.ref a1), (.ref a1)])) rfl rfl (hb hby at_12)
    have Z3 : n0 ≤ h3.size := Nat.le_trans Z2 K3.1
    obtain ⟨T4, h4, L4, X4, e4, N4, A4, K4, st4⟩ := own_put X3 hx hZ e3 A3 N3 ga1 (by decide) (by decide) (g := (mkF m 17 #[.val (.int p1), .val (.int p2), .val (.int p3), .unset, .unset, .unset, .unset] [(.int (10 : Int32)), (.int (2 : Int32)), (.ref a1), (.ref a1)])) rfl rfl (hb hby at_17)
    have Z4 : n0 ≤ h4.size := Nat.le_trans Z3 K4.1
    obtain ⟨T5, h5, L5, X5, e5, N5, A5, K5, st5⟩ := own_put X4 hx hZ e4 A4 N4 ga1 (by decide) (by decide) (g := (mkF m 22 #[.val (.int p1), .val (.int p2), .val (.int p3), .unset, .unset, .unset, .unset] [(.int (13 : Int32)), (.int (3 : Int32)), (.ref a1), (.ref a1)])) rfl rfl (hb hby at_22)
    have Z5 : n0 ≤ h5.size := Nat.le_trans Z4 K5.1
    obtain ⟨T6, h6, L6, X6, e6, N6, A6, K6, st6⟩ := own_put X5 hx hZ e5 A5 N5 ga1 (by decide) (by decide) (g := (mkF m 27 #[.val (.int p1), .val (.int p2), .val (.int p3), .unset, .unset, .unset, .unset] [(.int (32 : Int32)), (.int (4 : Int32)), (.ref a1), (.ref a1)])) rfl rfl (hb hby at_27)
    have Z6 : n0 ≤ h6.size := Nat.le_trans Z5 K6.1
    obtain ⟨T7, h7, L7, X7, e7, N7, A7, K7, st7⟩ := own_put X6 hx hZ e6 A6 N6 ga1 (by decide) (by decide) (g := (mkF m 32 #[.val (.int p1), .val (.int p2), .val (.int p3), .unset, .unset, .unset, .unset] [(.int (55295 : Int32)), (.int (5 : Int32)), (.ref a1), (.ref a1)])) rfl rfl (hb hby at_32)
    have Z7 : n0 ≤ h7.size := Nat.le_trans Z6 K7.1
    obtain ⟨T8, h8, L8, X8, e8, N8, A8, K8, st8⟩ := own_put X7 hx hZ e7 A7 N7 ga1 (by decide) (by decide) (g := (mkF m 38 #[.val (.int p1), .val (.int p2), .val (.int p3), .unset, .unset, .unset, .unset] [(.int (55296 : Int32)), (.int (6 : Int32)), (.ref a1), (.ref a1)])) rfl rfl (hb hby at_38)
    have Z8 : n0 ≤ h8.size := Nat.le_trans Z7 K8.1
    obtain ⟨T9, h9, L9, X9, e9, N9, A9, K9, st9⟩ := own_put X8 hx hZ e8 A8 N8 ga1 (by decide) (by decide) (g := (mkF m 44 #[.val (.int p1), .val (.int p2), .val (.int p3), .unset, .unset, .unset, .unset] [(.int (57343 : Int32)), (.int (7 : Int32)), (.ref a1), (.ref a1)])) rfl rfl (hb hby at_44)
    have Z9 : n0 ≤ h9.size := Nat.le_trans Z8 K9.1
    obtain ⟨T10, h10, L10, X10, e10, N10, A10, K10, st10⟩ := own_put X9 hx hZ e9 A9 N9 ga1 (by decide) (by decide) (g := (mkF m 50 #[.val (.int p1), .val (.int p2), .val (.int p3), .unset, .unset, .unset, .unset] [(.int (57344 : Int32)), (.int (8 : Int32)), (.ref a1), (.ref a1)])) rfl rfl (hb hby at_50)
    have Z10 : n0 ≤ h10.size := Nat.le_trans Z9 K10.1
    obtain ⟨T11, h11, L11, X11, e11, N11, A11, K11, st11⟩ := own_put X10 hx hZ e10 A10 N10 ga1 (by decide) (by decide) (g := (mkF m 56 #[.val (.int p1), .val (.int p2), .val (.int p3), .unset, .unset, .unset, .unset] [(.int (65533 : Int32)), (.int (9 : Int32)), (.ref a1), (.ref a1)])) rfl rfl (hb hby at_56)
    have Z11 : n0 ≤ h11.size := Nat.le_trans Z10 K11.1
    obtain ⟨T12, h12, L12, X12, e12, N12, A12, K12, st12⟩ := own_put X11 hx hZ e11 A11 N11 ga1 (by decide) (by decide) (g := (mkF m 62 #[.val (.int p1), .val (.int p2), .val (.int p3), .unset, .unset, .unset, .unset] [(.int (65535 : Int32)), (.int (10 : Int32)), (.ref a1), (.ref a1)])) rfl rfl (hb hby at_62)
    have Z12 : n0 ≤ h12.size := Nat.le_trans Z11 K12.1
    obtain ⟨T13, h13, L13, X13, e13, N13, A13, K13, st13⟩ := own_put X12 hx hZ e12 A12 N12 ga1 (by decide) (by decide) (g := (mkF m 68 #[.val (.int p1), .val (.int p2), .val (.int p3), .unset, .unset, .unset, .unset] [(.int (65536 : Int32)), (.int (11 : Int32)), (.ref a1), (.ref a1)])) rfl rfl (hb hby at_68)
    have Z13 : n0 ≤ h13.size := Nat.le_trans Z12 K13.1
    obtain ⟨T14, h14, L14, X14, e14, N14, A14, K14, st14⟩ := own_put X13 hx hZ e13 A13 N13 ga1 (by decide) (by decide) (g := (mkF m 74 #[.val (.int p1), .val (.int p2), .val (.int p3), .unset, .unset, .unset, .unset] [(.int (1114111 : Int32)), (.int (12 : Int32)), (.ref a1), (.ref a1)])) rfl rfl (hb hby at_74)
    have Z14 : n0 ≤ h14.size := Nat.le_trans Z13 K14.1
    obtain ⟨T15, h15, L15, X15, e15, N15, A15, K15, st15⟩ := own_put X14 hx hZ e14 A14 N14 ga1 (by decide) (by decide) (g := (mkF m 80 #[.val (.int p1), .val (.int p2), .val (.int p3), .unset, .unset, .unset, .unset] [(.int (1114112 : Int32)), (.int (13 : Int32)), (.ref a1), (.ref a1)])) rfl rfl (hb hby at_80)
    have Z15 : n0 ≤ h15.size := Nat.le_trans Z14 K15.1
    obtain ⟨T16, h16, L16, X16, e16, N16, A16, K16, st16⟩ := own_put X15 hx hZ e15 A15 N15 ga1 (by decide) (by decide) (g := (mkF m 86 #[.val (.int p1), .val (.int p2), .val (.int p3), .unset, .unset, .unset, .unset] [(.int (-2147483648 : Int32)), (.int (14 : Int32)), (.ref a1), (.ref a1)])) rfl rfl (hb hby at_86)
    have Z16 : n0 ≤ h16.size := Nat.le_trans Z15 K16.1
    obtain ⟨T17, h17, L17, X17, e17, N17, A17, K17, st17⟩ := own_put X16 hx hZ e16 A16 N16 ga1 (by decide) (by decide) (g := (mkF m 92 #[.val (.int p1), .val (.int p2), .val (.int p3), .unset, .unset, .unset, .unset] [(.int (2147483647 : Int32)), (.int (15 : Int32)), (.ref a1), (.ref a1)])) rfl rfl (hb hby at_92)
    have Z17 : n0 ≤ h17.size := Nat.le_trans Z16 K17.1
    obtain ⟨z19, hz19, st19⟩ := own_load X17 hx hZ e17 A17 (own_idx p2).1 (own_idx p2).2 (g := (mkF m 121 #[.val (.int p1), .val (.int p2), .val (.int p3), .val (.ref a1), .val (.int (p2 &&& (15 : Int32))), .val (.int ((p3 &&& (3 : Int32)) - (1 : Int32))), .unset] [(.int (p2 &&& (15 : Int32))), (.ref a1)])) rfl rfl (hb hby at_121)
    obtain ⟨u, L, st, hrun, hended, hW, hsame, N⟩ := tail0 X17 hx hZ hw hby hml hown hret hlk h17 e17 n0 N17 (by decide) (by decide) (.val (.int p1)) (.val (.int p2)) (.val (.int p3)) (.val (.ref a1)) (.val (.int (p2 &&& (15 : Int32)))) (.val (.int ((p3 &&& (3 : Int32)) - (1 : Int32)))) (z19 + ((p3 &&& (3 : Int32)) - (1 : Int32)))
    refine ⟨_, _, pre0 _ ?_, hrun, hended, _, _, rfl, ⟨rfl, N⟩, ⟨_, rfl⟩, hW, hsame.mono (by decide) (by decide)⟩
    show Steps p.tables e below (s₁.setTop (mkF m 0 #[.val (.int p1), .val (.int p2), .val (.int p3), .unset, .unset, .unset, .unset] [])) _
    refine XS.bipush X0.here hx rfl (hb hby at_0) ?_
    show Steps p.tables e below (s₁.setTop (mkF m 2 #[.val (.int p1), .val (.int p2), .val (.int p3), .unset, .unset, .unset, .unset] [(.int (16 : Int32))])) _
    refine st1 _ ?_
    show Steps p.tables e below (T1.setTop (mkF m 4 #[.val (.int p1), .val (.int p2), .val (.int p3), .unset, .unset, .unset, .unset] [(.ref a1)])) _
    refine XS.dup X1.here hx rfl (hb hby at_4) rfl rfl ?_
    show Steps p.tables e below (T1.setTop (mkF m 5 #[.val (.int p1), .val (.int p2), .val (.int p3), .unset, .unset, .unset, .unset] [(.ref a1), (.ref a1)])) _
    refine XS.iconst X1.here hx rfl (hb hby at_5) ?_
    show Steps p.tables e below (T1.setTop (mkF m 6 #[.val (.int p1), .val (.int p2), .val (.int p3), .unset, .unset, .unset, .unset] [(.int (0 : Int32)), (.ref a1), (.ref a1)])) _
    refine XS.iconst X1.here hx rfl (hb hby at_6) ?_
    show Steps p.tables e below (T1.setTop (mkF m 7 #[.val (.int p1), .val (.int p2), .val (.int p3), .unset, .unset, .unset, .unset] [(.int (0 : Int32)), (.int (0 : Int32)), (.ref a1), (.ref a1)])) _
    refine st2 _ ?_
    show Steps p.tables e below (T2.setTop (mkF m 8 #[.val (.int p1), .val (.int p2), .val (.int p3), .unset, .unset, .unset, .unset] [(.ref a1)])) _
    refine XS.dup X2.here hx rfl (hb hby at_8) rfl rfl ?_
    show Steps p.tables e below (T2.setTop (mkF m 9 #[.val (.int p1), .val (.int p2), .val (.int p3), .unset, .unset, .unset, .unset] [(.ref a1), (.ref a1)])) _
    refine XS.iconst X2.here hx rfl (hb hby at_9) ?_
    show Steps p.tables e below (T2.setTop (mkF m 10 #[.val (.int p1), .val (.int p2), .val (.int p3), .unset, .unset, .unset, .unset] [(.int (1 : Int32)), (.ref a1), (.ref a1)])) _
    refine XS.bipush X2.here hx rfl (hb hby at_10) ?_
    show Steps p.tables e below (T2.setTop (mkF m 12 #[.val (.int p1), .val (.int p2), .val (.int p3), .unset, .unset, .unset, .unset] [(.int (9 : Int32)), (.int (1 : Int32)), (.ref a1), (.ref a1)])) _
    refine st3 _ ?_
    show Steps p.tables e below (T3.setTop (mkF m 13 #[.val (.int p1), .val (.int p2), .val (.int p3), .unset, .unset, .unset, .unset] [(.ref a1)])) _
    refine XS.dup X3.here hx rfl (hb hby at_13) rfl rfl ?_
    show Steps p.tables e below (T3.setTop (mkF m 14 #[.val (.int p1), .val (.int p2), .val (.int p3), .unset, .unset, .unset, .unset] [(.ref a1), (.ref a1)])) _
    refine XS.iconst X3.here hx rfl (hb hby at_14) ?_
    show Steps p.tables e below (T3.setTop (mkF m 15 #[.val (.int p1), .val (.int p2), .val (.int p3), .unset, .unset, .unset, .unset] [(.int (2 : Int32)), (.ref a1), (.ref a1)])) _
    refine XS.bipush X3.here hx rfl (hb hby at_15) ?_
    show Steps p.tables e below (T3.setTop (mkF m 17 #[.val (.int p1), .val (.int p2), .val (.int p3), .unset, .unset, .unset, .unset] [(.int (10 : Int32)), (.int (2 : Int32)), (.ref a1), (.ref a1)])) _
    refine st4 _ ?_
    show Steps p.tables e below (T4.setTop (mkF m 18 #[.val (.int p1), .val (.int p2), .val (.int p3), .unset, .unset, .unset, .unset] [(.ref a1)])) _
    refine XS.dup X4.here hx rfl (hb hby at_18) rfl rfl ?_
    show Steps p.tables e below (T4.setTop (mkF m 19 #[.val (.int p1), .val (.int p2), .val (.int p3), .unset, .unset, .unset, .unset] [(.ref a1), (.ref a1)])) _
    refine XS.iconst X4.here hx rfl (hb hby at_19) ?_
    show Steps p.tables e below (T4.setTop (mkF m 20 #[.val (.int p1), .val (.int p2), .val (.int p3), .unset, .unset, .unset, .unset] [(.int (3 : Int32)), (.ref a1), (.ref a1)])) _
    refine XS.bipush X4.here hx rfl (hb hby at_20) ?_
    show Steps p.tables e below (T4.setTop (mkF m 22 #[.val (.int p1), .val (.int p2), .val (.int p3), .unset, .unset, .unset, .unset] [(.int (13 : Int32)), (.int (3 : Int32)), (.ref a1), (.ref a1)])) _
    refine st5 _ ?_
    show Steps p.tables e below (T5.setTop (mkF m 23 #[.val (.int p1), .val (.int p2), .val (.int p3), .unset, .unset, .unset, .unset] [(.ref a1)])) _
    refine XS.dup X5.here hx rfl (hb hby at_23) rfl rfl ?_
    show Steps p.tables e below (T5.setTop (mkF m 24 #[.val (.int p1), .val (.int p2), .val (.int p3), .unset, .unset, .unset, .unset] [(.ref a1), (.ref a1)])) _
    refine XS.iconst X5.here hx rfl (hb hby at_24) ?_
    show Steps p.tables e below (T5.setTop (mkF m 25 #[.val (.int p1), .val (.int p2), .val (.int p3), .unset, .unset, .unset, .unset] [(.int (4 : Int32)), (.ref a1), (.ref a1)])) _
    refine XS.bipush X5.here hx rfl (hb hby at_25) ?_
    show Steps p.tables e below (T5.setTop (mkF m 27 #[.val (.int p1), .val (.int p2), .val (.int p3), .unset, .unset, .unset, .unset] [(.int (32 : Int32)), (.int (4 : Int32)), (.ref a1), (.ref a1)])) _
    refine st6 _ ?_
    show Steps p.tables e below (T6.setTop (mkF m 28 #[.val (.int p1), .val (.int p2), .val (.int p3), .unset, .unset, .unset, .unset] [(.ref a1)])) _
    refine XS.dup X6.here hx rfl (hb hby at_28) rfl rfl ?_
    show Steps p.tables e below (T6.setTop (mkF m 29 #[.val (.int p1), .val (.int p2), .val (.int p3), .unset, .unset, .unset, .unset] [(.ref a1), (.ref a1)])) _
    refine XS.iconst X6.here hx rfl (hb hby at_29) ?_
    show Steps p.tables e below (T6.setTop (mkF m 30 #[.val (.int p1), .val (.int p2), .val (.int p3), .unset, .unset, .unset, .unset] [(.int (5 : Int32)), (.ref a1), (.ref a1)])) _
    refine X6.ldcI hx hown (v := (55295 : Int32)) (mvT hZ (hw _ (List.mem_of_getElem? (i := 1) rfl))) rfl (hb hby at_30) ?_
    show Steps p.tables e below (T6.setTop (mkF m 32 #[.val (.int p1), .val (.int p2), .val (.int p3), .unset, .unset, .unset, .unset] [(.int (55295 : Int32)), (.int (5 : Int32)), (.ref a1), (.ref a1)])) _
    refine st7 _ ?_
    show Steps p.tables e below (T7.setTop (mkF m 33 #[.val (.int p1), .val (.int p2), .val (.int p3), .unset, .unset, .unset, .unset] [(.ref a1)])) _
    refine XS.dup X7.here hx rfl (hb hby at_33) rfl rfl ?_
    show Steps p.tables e below (T7.setTop (mkF m 34 #[.val (.int p1), .val (.int p2), .val (.int p3), .unset, .unset, .unset, .unset] [(.ref a1), (.ref a1)])) _
    refine XS.bipush X7.here hx rfl (hb hby at_34) ?_
    show Steps p.tables e below (T7.setTop (mkF m 36 #[.val (.int p1), .val (.int p2), .val (.int p3), .unset, .unset, .unset, .unset] [(.int (6 : Int32)), (.ref a1), (.ref a1)])) _
    refine X7.ldcI hx hown (v := (55296 : Int32)) (mvT hZ (hw _ (List.mem_of_getElem? (i := 2) rfl))) rfl (hb hby at_36) ?_
    show Steps p.tables e below (T7.setTop (mkF m 38 #[.val (.int p1), .val (.int p2), .val (.int p3), .unset, .unset, .unset, .unset] [(.int (55296 : Int32)), (.int (6 : Int32)), (.ref a1), (.ref a1)])) _
    refine st8 _ ?_
    show Steps p.tables e below (T8.setTop (mkF m 39 #[.val (.int p1), .val (.int p2), .val (.int p3), .unset, .unset, .unset, .unset] [(.ref a1)])) _
    refine XS.dup X8.here hx rfl (hb hby at_39) rfl rfl ?_
    show Steps p.tables e below (T8.setTop (mkF m 40 #[.val (.int p1), .val (.int p2), .val (.int p3), .unset, .unset, .unset, .unset] [(.ref a1), (.ref a1)])) _
    refine XS.bipush X8.here hx rfl (hb hby at_40) ?_
    show Steps p.tables e below (T8.setTop (mkF m 42 #[.val (.int p1), .val (.int p2), .val (.int p3), .unset, .unset, .unset, .unset] [(.int (7 : Int32)), (.ref a1), (.ref a1)])) _
    refine X8.ldcI hx hown (v := (57343 : Int32)) (mvT hZ (hw _ (List.mem_of_getElem? (i := 3) rfl))) rfl (hb hby at_42) ?_
    show Steps p.tables e below (T8.setTop (mkF m 44 #[.val (.int p1), .val (.int p2), .val (.int p3), .unset, .unset, .unset, .unset] [(.int (57343 : Int32)), (.int (7 : Int32)), (.ref a1), (.ref a1)])) _
    refine st9 _ ?_
    show Steps p.tables e below (T9.setTop (mkF m 45 #[.val (.int p1), .val (.int p2), .val (.int p3), .unset, .unset, .unset, .unset] [(.ref a1)])) _
    refine XS.dup X9.here hx rfl (hb hby at_45) rfl rfl ?_
    show Steps p.tables e below (T9.setTop (mkF m 46 #[.val (.int p1), .val (.int p2), .val (.int p3), .unset, .unset, .unset, .unset] [(.ref a1), (.ref a1)])) _
    refine XS.bipush X9.here hx rfl (hb hby at_46) ?_
    show Steps p.tables e below (T9.setTop (mkF m 48 #[.val (.int p1), .val (.int p2), .val (.int p3), .unset, .unset, .unset, .unset] [(.int (8 : Int32)), (.ref a1), (.ref a1)])) _
    refine X9.ldcI hx hown (v := (57344 : Int32)) (mvT hZ (hw _ (List.mem_of_getElem? (i := 4) rfl))) rfl (hb hby at_48) ?_
    show Steps p.tables e below (T9.setTop (mkF m 50 #[.val (.int p1), .val (.int p2), .val (.int p3), .unset, .unset, .unset, .unset] [(.int (57344 : Int32)), (.int (8 : Int32)), (.ref a1), (.ref a1)])) _
    refine st10 _ ?_
    show Steps p.tables e below (T10.setTop (mkF m 51 #[.val (.int p1), .val (.int p2), .val (.int p3), .unset, .unset, .unset, .unset] [(.ref a1)])) _
    refine XS.dup X10.here hx rfl (hb hby at_51) rfl rfl ?_
    show Steps p.tables e below (T10.setTop (mkF m 52 #[.val (.int p1), .val (.int p2), .val (.int p3), .unset, .unset, .unset, .unset] [(.ref a1), (.ref a1)])) _
    refine XS.bipush X10.here hx rfl (hb hby at_52) ?_
    show Steps p.tables e below (T10.setTop (mkF m 54 #[.val (.int p1), .val (.int p2), .val (.int p3), .unset, .unset, .unset, .unset] [(.int (9 : Int32)), (.ref a1), (.ref a1)])) _
    refine X10.ldcI hx hown (v := (65533 : Int32)) (mvT hZ (hw _ (List.mem_of_getElem? (i := 5) rfl))) rfl (hb hby at_54) ?_
    show Steps p.tables e below (T10.setTop (mkF m 56 #[.val (.int p1), .val (.int p2), .val (.int p3), .unset, .unset, .unset, .unset] [(.int (65533 : Int32)), (.int (9 : Int32)), (.ref a1), (.ref a1)])) _
    refine st11 _ ?_
    show Steps p.tables e below (T11.setTop (mkF m 57 #[.val (.int p1), .val (.int p2), .val (.int p3), .unset, .unset, .unset, .unset] [(.ref a1)])) _
    refine XS.dup X11.here hx rfl (hb hby at_57) rfl rfl ?_
    show Steps p.tables e below (T11.setTop (mkF m 58 #[.val (.int p1), .val (.int p2), .val (.int p3), .unset, .unset, .unset, .unset] [(.ref a1), (.ref a1)])) _
    refine XS.bipush X11.here hx rfl (hb hby at_58) ?_
    show Steps p.tables e below (T11.setTop (mkF m 60 #[.val (.int p1), .val (.int p2), .val (.int p3), .unset, .unset, .unset, .unset] [(.int (10 : Int32)), (.ref a1), (.ref a1)])) _
    refine X11.ldcI hx hown (v := (65535 : Int32)) (mvT hZ (hw _ (List.mem_of_getElem? (i := 6) rfl))) rfl (hb hby at_60) ?_
    show Steps p.tables e below (T11.setTop (mkF m 62 #[.val (.int p1), .val (.int p2), .val (.int p3), .unset, .unset, .unset, .unset] [(.int (65535 : Int32)), (.int (10 : Int32)), (.ref a1), (.ref a1)])) _
    refine st12 _ ?_
    show Steps p.tables e below (T12.setTop (mkF m 63 #[.val (.int p1), .val (.int p2), .val (.int p3), .unset, .unset, .unset, .unset] [(.ref a1)])) _
    refine XS.dup X12.here hx rfl (hb hby at_63) rfl rfl ?_
    show Steps p.tables e below (T12.setTop (mkF m 64 #[.val (.int p1), .val (.int p2), .val (.int p3), .unset, .unset, .unset, .unset] [(.ref a1), (.ref a1)])) _
    refine XS.bipush X12.here hx rfl (hb hby at_64) ?_
    show Steps p.tables e below (T12.setTop (mkF m 66 #[.val (.int p1), .val (.int p2), .val (.int p3), .unset, .unset, .unset, .unset] [(.int (11 : Int32)), (.ref a1), (.ref a1)])) _
    refine X12.ldcI hx hown (v := (65536 : Int32)) (mvT hZ (hw _ (List.mem_of_getElem? (i := 7) rfl))) rfl (hb hby at_66) ?_
    show Steps p.tables e below (T12.setTop (mkF m 68 #[.val (.int p1), .val (.int p2), .val (.int p3), .unset, .unset, .unset, .unset] [(.int (65536 : Int32)), (.int (11 : Int32)), (.ref a1), (.ref a1)])) _
    refine st13 _ ?_
    show Steps p.tables e below (T13.setTop (mkF m 69 #[.val (.int p1), .val (.int p2), .val (.int p3), .unset, .unset, .unset, .unset] [(.ref a1)])) _
    refine XS.dup X13.here hx rfl (hb hby at_69) rfl rfl ?_
    show Steps p.tables e below (T13.setTop (mkF m 70 #[.val (.int p1), .val (.int p2), .val (.int p3), .unset, .unset, .unset, .unset] [(.ref a1), (.ref a1)])) _
    refine XS.bipush X13.here hx rfl (hb hby at_70) ?_
    show Steps p.tables e below (T13.setTop (mkF m 72 #[.val (.int p1), .val (.int p2), .val (.int p3), .unset, .unset, .unset, .unset] [(.int (12 : Int32)), (.ref a1), (.ref a1)])) _
    refine X13.ldcI hx hown (v := (1114111 : Int32)) (mvT hZ (hw _ (List.mem_of_getElem? (i := 8) rfl))) rfl (hb hby at_72) ?_
    show Steps p.tables e below (T13.setTop (mkF m 74 #[.val (.int p1), .val (.int p2), .val (.int p3), .unset, .unset, .unset, .unset] [(.int (1114111 : Int32)), (.int (12 : Int32)), (.ref a1), (.ref a1)])) _
    refine st14 _ ?_
    show Steps p.tables e below (T14.setTop (mkF m 75 #[.val (.int p1), .val (.int p2), .val (.int p3), .unset, .unset, .unset, .unset] [(.ref a1)])) _
    refine XS.dup X14.here hx rfl (hb hby at_75) rfl rfl ?_
    show Steps p.tables e below (T14.setTop (mkF m 76 #[.val (.int p1), .val (.int p2), .val (.int p3), .unset, .unset, .unset, .unset] [(.ref a1), (.ref a1)])) _
    refine XS.bipush X14.here hx rfl (hb hby at_76) ?_
    show Steps p.tables e below (T14.setTop (mkF m 78 #[.val (.int p1), .val (.int p2), .val (.int p3), .unset, .unset, .unset, .unset] [(.int (13 : Int32)), (.ref a1), (.ref a1)])) _
    refine X14.ldcI hx hown (v := (1114112 : Int32)) (mvT hZ (hw _ (List.mem_of_getElem? (i := 9) rfl))) rfl (hb hby at_78) ?_
    show Steps p.tables e below (T14.setTop (mkF m 80 #[.val (.int p1), .val (.int p2), .val (.int p3), .unset, .unset, .unset, .unset] [(.int (1114112 : Int32)), (.int (13 : Int32)), (.ref a1), (.ref a1)])) _
    refine st15 _ ?_
    show Steps p.tables e below (T15.setTop (mkF m 81 #[.val (.int p1), .val (.int p2), .val (.int p3), .unset, .unset, .unset, .unset] [(.ref a1)])) _
    refine XS.dup X15.here hx rfl (hb hby at_81) rfl rfl ?_
    show Steps p.tables e below (T15.setTop (mkF m 82 #[.val (.int p1), .val (.int p2), .val (.int p3), .unset, .unset, .unset, .unset] [(.ref a1), (.ref a1)])) _
    refine XS.bipush X15.here hx rfl (hb hby at_82) ?_
    show Steps p.tables e below (T15.setTop (mkF m 84 #[.val (.int p1), .val (.int p2), .val (.int p3), .unset, .unset, .unset, .unset] [(.int (14 : Int32)), (.ref a1), (.ref a1)])) _
    refine X15.ldcI hx hown (v := (-2147483648 : Int32)) (mvT hZ (hw _ (List.mem_of_getElem? (i := 10) rfl))) rfl (hb hby at_84) ?_
    show Steps p.tables e below (T15.setTop (mkF m 86 #[.val (.int p1), .val (.int p2), .val (.int p3), .unset, .unset, .unset, .unset] [(.int (-2147483648 : Int32)), (.int (14 : Int32)), (.ref a1), (.ref a1)])) _
    refine st16 _ ?_
    show Steps p.tables e below (T16.setTop (mkF m 87 #[.val (.int p1), .val (.int p2), .val (.int p3), .unset, .unset, .unset, .unset] [(.ref a1)])) _
    refine XS.dup X16.here hx rfl (hb hby at_87) rfl rfl ?_
    show Steps p.tables e below (T16.setTop (mkF m 88 #[.val (.int p1), .val (.int p2), .val (.int p3), .unset, .unset, .unset, .unset] [(.ref a1), (.ref a1)])) _
    refine XS.bipush X16.here hx rfl (hb hby at_88) ?_
    show Steps p.tables e below (T16.setTop (mkF m 90 #[.val (.int p1), .val (.int p2), .val (.int p3), .unset, .unset, .unset, .unset] [(.int (15 : Int32)), (.ref a1), (.ref a1)])) _
    refine X16.ldcI hx hown (v := (2147483647 : Int32)) (mvT hZ (hw _ (List.mem_of_getElem? (i := 11) rfl))) rfl (hb hby at_90) ?_
    show Steps p.tables e below (T16.setTop (mkF m 92 #[.val (.int p1), .val (.int p2), .val (.int p3), .unset, .unset, .unset, .unset] [(.int (2147483647 : Int32)), (.int (15 : Int32)), (.ref a1), (.ref a1)])) _
    refine st17 _ ?_
    show Steps p.tables e below (T17.setTop (mkF m 93 #[.val (.int p1), .val (.int p2), .val (.int p3), .unset, .unset, .unset, .unset] [(.ref a1)])) _
    refine XS.astoreN X17.here hx rfl (hb hby at_93) rfl rfl (l' := #[.val (.int p1), .val (.int p2), .val (.int p3), .val (.ref a1), .unset, .unset, .unset]) rfl ?_
    show Steps p.tables e below (T17.setTop (mkF m 94 #[.val (.int p1), .val (.int p2), .val (.int p3), .val (.ref a1), .unset, .unset, .unset] [])) _
    refine XS.iloadN X17.here hx rfl (hb hby at_94) rfl ?_
    show Steps p.tables e below (T17.setTop (mkF m 95 #[.val (.int p1), .val (.int p2), .val (.int p3), .val (.ref a1), .unset, .unset, .unset] [(.int p2)])) _
    refine XS.bipush X17.here hx rfl (hb hby at_95) ?_
    show Steps p.tables e below (T17.setTop (mkF m 97 #[.val (.int p1), .val (.int p2), .val (.int p3), .val (.ref a1), .unset, .unset, .unset] [(.int (15 : Int32)), (.int p2)])) _
    refine XS.iand X17.here hx rfl (hb hby at_97) rfl ?_
    show Steps p.tables e below (T17.setTop (mkF m 98 #[.val (.int p1), .val (.int p2), .val (.int p3), .val (.ref a1), .unset, .unset, .unset] [(.int (p2 &&& (15 : Int32)))])) _
    refine XS.istore X17.here hx rfl (hb hby at_98) rfl (l' := #[.val (.int p1), .val (.int p2), .val (.int p3), .val (.ref a1), .val (.int (p2 &&& (15 : Int32))), .unset, .unset]) rfl ?_
    show Steps p.tables e below (T17.setTop (mkF m 100 #[.val (.int p1), .val (.int p2), .val (.int p3), .val (.ref a1), .val (.int (p2 &&& (15 : Int32))), .unset, .unset] [])) _
    refine XS.iloadN X17.here hx rfl (hb hby at_100) rfl ?_
    show Steps p.tables e below (T17.setTop (mkF m 101 #[.val (.int p1), .val (.int p2), .val (.int p3), .val (.ref a1), .val (.int (p2 &&& (15 : Int32))), .unset, .unset] [(.int p3)])) _
    refine XS.iconst X17.here hx rfl (hb hby at_101) ?_
    show Steps p.tables e below (T17.setTop (mkF m 102 #[.val (.int p1), .val (.int p2), .val (.int p3), .val (.ref a1), .val (.int (p2 &&& (15 : Int32))), .unset, .unset] [(.int (3 : Int32)), (.int p3)])) _
    refine XS.iand X17.here hx rfl (hb hby at_102) rfl ?_
    show Steps p.tables e below (T17.setTop (mkF m 103 #[.val (.int p1), .val (.int p2), .val (.int p3), .val (.ref a1), .val (.int (p2 &&& (15 : Int32))), .unset, .unset] [(.int (p3 &&& (3 : Int32)))])) _
    refine XS.iconst X17.here hx rfl (hb hby at_103) ?_
    show Steps p.tables e below (T17.setTop (mkF m 104 #[.val (.int p1), .val (.int p2), .val (.int p3), .val (.ref a1), .val (.int (p2 &&& (15 : Int32))), .unset, .unset] [(.int (1 : Int32)), (.int (p3 &&& (3 : Int32)))])) _
    refine XS.isub X17.here hx rfl (hb hby at_104) rfl ?_
    show Steps p.tables e below (T17.setTop (mkF m 105 #[.val (.int p1), .val (.int p2), .val (.int p3), .val (.ref a1), .val (.int (p2 &&& (15 : Int32))), .unset, .unset] [(.int ((p3 &&& (3 : Int32)) - (1 : Int32)))])) _
    refine XS.istore X17.here hx rfl (hb hby at_105) rfl (l' := #[.val (.int p1), .val (.int p2), .val (.int p3), .val (.ref a1), .val (.int (p2 &&& (15 : Int32))), .val (.int ((p3 &&& (3 : Int32)) - (1 : Int32))), .unset]) rfl ?_
    show Steps p.tables e below (T17.setTop (mkF m 107 #[.val (.int p1), .val (.int p2), .val (.int p3), .val (.ref a1), .val (.int (p2 &&& (15 : Int32))), .val (.int ((p3 &&& (3 : Int32)) - (1 : Int32))), .unset] [])) _
    refine XS.iload X17.here hx rfl (hb hby at_107) rfl ?_
    show Steps p.tables e below (T17.setTop (mkF m 109 #[.val (.int p1), .val (.int p2), .val (.int p3), .val (.ref a1), .val (.int (p2 &&& (15 : Int32))), .val (.int ((p3 &&& (3 : Int32)) - (1 : Int32))), .unset] [(.int (p2 &&& (15 : Int32)))])) _
    refine XS.ifYes X17.here hx rfl (pc0 := 109) (pc' := 118) rfl (hb hby at_109) rfl ((if0 _ _).trans (feq hc18).2) (by decide) (by decide) ?_
    show Steps p.tables e below (T17.setTop (mkF m 118 #[.val (.int p1), .val (.int p2), .val (.int p3), .val (.ref a1), .val (.int (p2 &&& (15 : Int32))), .val (.int ((p3 &&& (3 : Int32)) - (1 : Int32))), .unset] [])) _
    refine XS.aloadN X17.here hx rfl (hb hby at_118) rfl rfl ?_
    show Steps p.tables e below (T17.setTop (mkF m 119 #[.val (.int p1), .val (.int p2), .val (.int p3), .val (.ref a1), .val (.int (p2 &&& (15 : Int32))), .val (.int ((p3 &&& (3 : Int32)) - (1 : Int32))), .unset] [(.ref a1)])) _
    refine XS.iload X17.here hx rfl (hb hby at_119) rfl ?_
    show Steps p.tables e below (T17.setTop (mkF m 121 #[.val (.int p1), .val (.int p2), .val (.int p3), .val (.ref a1), .val (.int (p2 &&& (15 : Int32))), .val (.int ((p3 &&& (3 : Int32)) - (1 : Int32))), .unset] [(.int (p2 &&& (15 : Int32))), (.ref a1)])) _
    refine st19 _ ?_
    show Steps p.tables e below (T17.setTop (mkF m 122 #[.val (.int p1), .val (.int p2), .val (.int p3), .val (.ref a1), .val (.int (p2 &&& (15 : Int32))), .val (.int ((p3 &&& (3 : Int32)) - (1 : Int32))), .unset] [(.int z19)])) _
    refine XS.iload X17.here hx rfl (hb hby at_122) rfl ?_
    show Steps p.tables e below (T17.setTop (mkF m 124 #[.val (.int p1), .val (.int p2), .val (.int p3), .val (.ref a1), .val (.int (p2 &&& (15 : Int32))), .val (.int ((p3 &&& (3 : Int32)) - (1 : Int32))), .unset] [(.int ((p3 &&& (3 : Int32)) - (1 : Int32))), (.int z19)])) _
    refine XS.iadd X17.here hx rfl (hb hby at_124) rfl ?_
    show Steps p.tables e below (T17.setTop (mkF m 125 #[.val (.int p1), .val (.int p2), .val (.int p3), .val (.ref a1), .val (.int (p2 &&& (15 : Int32))), .val (.int ((p3 &&& (3 : Int32)) - (1 : Int32))), .unset] [(.int (z19 + ((p3 &&& (3 : Int32)) - (1 : Int32))))])) _
    refine XS.istore X17.here hx rfl (hb hby at_125) rfl (l' := #[.val (.int p1), .val (.int p2), .val (.int p3), .val (.ref a1), .val (.int (p2 &&& (15 : Int32))), .val (.int ((p3 &&& (3 : Int32)) - (1 : Int32))), .val (.int (z19 + ((p3 &&& (3 : Int32)) - (1 : Int32))))]) rfl ?_
    show Steps p.tables e below (T17.setTop (mkF m 127 #[.val (.int p1), .val (.int p2), .val (.int p3), .val (.ref a1), .val (.int (p2 &&& (15 : Int32))), .val (.int ((p3 &&& (3 : Int32)) - (1 : Int32))), .val (.int (z19 + ((p3 &&& (3 : Int32)) - (1 : Int32))))] [])) _
    exact st
set_option maxRecDepth 65536 in
set_option maxHeartbeats 40000000 in
theorem comes_1 {Post : Tables → Env → Array Value → State → Outcome → State → Prop} (hpost : ∀ tb e args s v u, (limb_1_1.after args s (.returned v) u = true ∧ limb_1_2.after args s (.returned v) u = true ∧ True) → FrameEnd s (.returned v) u (Jvm.fieldLocs frame_1_writes args s ++ Jvm.arrayLocs frame_1_arrays args s ++ Jvm.staticLocs frame_1_statics s) 16 128 → Post tb e args s (.returned v) u) :
    ArmFor flags0 classFile x code maxLocals ret World_1 tables_1 room_1 Calls_1 rest_1 Pre_1 Post := by
  intro l hfl _ _ p e ha hc hk s m args below hf hA hF happ hP
  obtain ⟨hcalls, hrest, hpre⟩ := hP
  obtain ⟨-, -, -, hnamed, -, -, -, hat⟩ := (Spec.applies_iff hf).mp happ
  obtain ⟨hg, hn⟩ := and_e (Cond.before_iff.mp (show (Jvm.Cond.and given_1 narrow_1).before args s = true from hpre))
  obtain ⟨gc, g0⟩ := and_e hg
  obtain ⟨ga0, g1⟩ := and_e g0
  obtain ⟨ga1, g2⟩ := and_e g1
  obtain ⟨w0, w1, w2, rfl⟩ : ∃ w0 w1 w2 : Value, args = #[w0, w1, w2] := by
    have hs : args.size = 3 := by simpa [Cond.value, given_1] using gc
    obtain ⟨L⟩ := args
    match L, hs with
    | [w0, w1, w2], _ => exact ⟨w0, w1, w2, rfl⟩
  have hw := fun d (hd : d ∈ tables_1) => atoms_spec (ws := Jvm.Cond.code x code maxLocals ret :: tables_1) hat d (List.mem_cons_of_mem _ hd)
  obtain ⟨i0, ei0⟩ := is_v ga0
  obtain rfl : w0 = (.int i0) := Option.some.inj ei0
  obtain ⟨i1, ei1⟩ := is_v ga1
  obtain rfl : w1 = (.int i1) := Option.some.inj ei1
  obtain ⟨i2, ei2⟩ := is_v g2
  obtain rfl : w2 = (.int i2) := Option.some.inj ei2
  obtain ⟨n, o, h1, h2, h3, _, L, rfl, ⟨rfl, N⟩, hq⟩ := rm0 l s _ hw tables_1 i0 i1 i2 s.heap s.heap.size (Nat.le_refl _) p e ha hc hk s m _ below hf ((Spec.applies_iff_loose hf).mp happ).1 ⟨rfl, State.Warmed39.refl s, rfl⟩ trivial
  refine ⟨n, _, h1, h2, h3, hpost _ _ _ _ _ _ ⟨Cond.after_iff.mpr rfl, Cond.after_iff.mpr (eq_i res_at (Term.int_eval (1)) rfl), trivial⟩ ⟨hq.1, hq.2.1, (hq.2.2.sift fun y hy => Or.inr (N y hy)).mono (by decide) (by decide)⟩⟩
theorem main_1_1 : Claimed_1_1 := comes_1 fun _ _ _ _ _ _ h hF => ⟨h.1, hF⟩
theorem main_1_2 : Claimed_1_2 := comes_1 fun _ _ _ _ _ _ h hF => ⟨h.2.1, hF⟩
end Jvm.Pilot.@@N@@
namespace Jvm.Pilot.@@N@@
open Jvm Jvm.ClassFile Sem Op Lib Jvm.Free Jvm.Stand Jvm.Pilot.@@N@@.Jvm.D
/-! MADE BY PROGRAM (witnessworld.py) out of the Statement's table words and the real class files: 9 classes; the members and pool entries that the words name. The judged class is class 1, her method 2. -/
namespace start1
open Jvm.ClassFile
def u (s : String) : CpInfo := .utf8 (stringToUtf16 s)
/-- a pool by its gaps: so many unusable entries, then the entry; so many at the end -/
def gap : Nat → List CpInfo → List CpInfo
  | 0, r => r
  | n + 1, r => .unusable :: gap n r
def poolList (es : List (Nat × CpInfo)) (last : Nat) : List CpInfo := es.foldr (fun e r => gap e.1 (e.2 :: r)) (gap last [])
def pool (es : List (Nat × CpInfo)) (last : Nat) : Array CpInfo := ⟨poolList es last⟩
def fileOf (pool : Array CpInfo) (this : Nat) (attrs : Array Attribute := #[]) (ms : Array MethodInfo := #[]) (fl : Nat := 33) (sup : Nat := 0) (ifs : Array Nat := #[]) (fds : Array FieldInfo := #[]) : ClassFile where
  minorVersion := 0
  majorVersion := 65
  constantPool := pool
  accessFlags := fl
  thisClass := this
  superClass := sup
  interfaces := ifs
  fields := fds
  methods := ms
  attributes := attrs
def plain (name : String) (sup : Option ClassId) : Class where
  name := name
  kind := .ordinary
  loader := none
  accessFlags := 33
  super := sup
  interfaces := #[]
  cf := none
  fields := #[]
  methods := #[]
  instanceTypes := #[]
  staticTypes := #[]
  resolved := #[]
  callSites := []
  init := .initialized
  statics := none
  mirror := none

def pool0 : Array CpInfo := pool [(5, u "<init>"), (0, u "()V"), (1, .class_ 10), (1, u "java/lang/Object")] 113

def k0m0 : Method := { name := "<init>", desc := "()V", sig := { parameters := [], returnType := none }, accessFlags := 1, code := none }
/-- java/lang/Object -/
def k0 : Class := { plain "java/lang/Object" none with
  accessFlags := 33
  interfaces := #[]
  cf := some (fileOf pool0 8 #[] #[{ accessFlags := 1, nameIndex := 5, descriptorIndex := 6, attributes := #[] }] 33 0 #[] #[])
  fields := #[]
  methods := #[k0m0]
  instanceTypes := #[]
  staticTypes := #[]
  resolved := Array.replicate 124 none
  statics := none }

def pool1 : Array CpInfo := pool [(2, .class_ 4), (1, u "java/lang/Object"), (0, u "<init>"), (0, u "()V"), (0, .integer 1114111), (0, .integer 55296), (0, .integer 57343), (0, .integer 65534), (0, .integer 65535), (0, .integer 55295), (0, .integer 57344), (0, .integer 65533), (0, .integer 65536), (0, .integer 1114112), (2, .integer 2147483648), (0, .integer 2147483647), (0, .methodref 22 23), (0, .class_ 24), (0, .nameAndType 25 26), (0, u "com/example/libxdm/libxdm/model/XmlNames"), (0, u "isCharacter"), (0, u "(I)Z"), (0, .methodref 28 29), (0, .class_ 30), (0, .nameAndType 31 26), (0, u "com/example/libxdm/libxdm/model/XmlNamesIsCharacterPinLaw"), (0, u "expected"), (3, u "law"), (0, u "(III)Z")] 4

def k1m0 : Method := { name := "<init>", desc := "()V", sig := { parameters := [], returnType := none }, accessFlags := 2, code := none }
def k1c1 : Code := { maxStack := 2, maxLocals := 1, code := method_2_code, exceptionTable := #[], attributes := #[] }
def k1m1 : Method := { name := "expected", desc := "(I)Z", sig := { parameters := [.int], returnType := some .boolean }, accessFlags := 10, code := some k1c1 }
def k1c2 : Code := { maxStack := 4, maxLocals := 7, code := code, exceptionTable := #[], attributes := #[] }
def k1m2 : Method := { name := "law", desc := "(III)Z", sig := { parameters := [.int, .int, .int], returnType := some .boolean }, accessFlags := 9, code := some k1c2 }
/-- com/example/libxdm/libxdm/model/XmlNamesIsCharacterPinLaw -/
def k1 : Class := { plain "com/example/libxdm/libxdm/model/XmlNamesIsCharacterPinLaw" (some 0) with
  accessFlags := 49
  interfaces := #[]
  cf := some (fileOf pool1 28 #[] #[{ accessFlags := 2, nameIndex := 5, descriptorIndex := 6, attributes := #[] }, { accessFlags := 10, nameIndex := 31, descriptorIndex := 26, attributes := #[] }, { accessFlags := 9, nameIndex := 35, descriptorIndex := 36, attributes := #[] }] 49 2 #[] #[])
  fields := #[]
  methods := #[k1m0, k1m1, k1m2]
  instanceTypes := #[]
  staticTypes := #[]
  resolved := Array.replicate 41 none
  statics := none }

def pool2 : Array CpInfo := pool [(2, .class_ 4), (1, u "java/lang/Object"), (0, u "<init>"), (0, u "()V"), (0, .integer 55295), (0, .integer 57344), (0, .integer 65533), (0, .integer 65536), (0, .integer 1114111), (11, .class_ 25), (1, u "com/example/libxdm/libxdm/model/XmlNames"), (1, u "(I)Z"), (27, u "XML_NAMESPACE"), (0, u "Ljava/lang/String;"), (5, u "isCharacter")] 7

def k2m0 : Method := { name := "<init>", desc := "()V", sig := { parameters := [], returnType := none }, accessFlags := 2, code := none }
def k2c1 : Code := { maxStack := 2, maxLocals := 1, code := prog_162_method_2_code, exceptionTable := #[], attributes := #[] }
def k2m1 : Method := { name := "isCharacter", desc := "(I)Z", sig := { parameters := [.int], returnType := some .boolean }, accessFlags := 9, code := some k2c1 }
/-- com/example/libxdm/libxdm/model/XmlNames -/
def k2 : Class := { plain "com/example/libxdm/libxdm/model/XmlNames" (some 0) with
  accessFlags := 49
  interfaces := #[]
  cf := some (fileOf pool2 23 #[] #[{ accessFlags := 2, nameIndex := 5, descriptorIndex := 6, attributes := #[] }, { accessFlags := 9, nameIndex := 62, descriptorIndex := 27, attributes := #[] }] 49 2 #[] #[{ accessFlags := 25, nameIndex := 55, descriptorIndex := 56, attributes := #[] }])
  fields := #[{ name := "XML_NAMESPACE", type := (.object "java/lang/String"), accessFlags := 25, slot := 0, constantValue := 0 }]
  methods := #[k2m0, k2m1]
  instanceTypes := #[]
  staticTypes := #[(.object "java/lang/String")]
  resolved := Array.replicate 70 none
  statics := none }

def pool3 : Array CpInfo := pool [(1, u "java/lang/Cloneable"), (0, .class_ 1), (0, u "java/lang/Object"), (0, .class_ 3)] 3

/-- java/lang/Cloneable -/
def k3 : Class := { plain "java/lang/Cloneable" (some 0) with
  accessFlags := 1537
  interfaces := #[]
  cf := some (fileOf pool3 2 #[] #[] 1537 4 #[] #[])
  fields := #[]
  methods := #[]
  instanceTypes := #[]
  staticTypes := #[]
  resolved := Array.replicate 8 none
  statics := none }

def pool4 : Array CpInfo := pool [(1, u "java/io/Serializable"), (0, .class_ 1), (0, u "java/lang/Object"), (0, .class_ 3)] 3

/-- java/io/Serializable -/
def k4 : Class := { plain "java/io/Serializable" (some 0) with
  accessFlags := 1537
  interfaces := #[]
  cf := some (fileOf pool4 2 #[] #[] 1537 4 #[] #[])
  fields := #[]
  methods := #[]
  instanceTypes := #[]
  staticTypes := #[]
  resolved := Array.replicate 8 none
  statics := none }

/-- the primitive byte -/
def k5 : Class := { plain "byte" none with kind := .primitive 'B', accessFlags := 0x411 }
/-- [B -/
def k6 : Class := { plain "[B" (some 0) with kind := .array 5 .byte, interfaces := #[3, 4], accessFlags := 1041 }

/-- the primitive int -/
def k7 : Class := { plain "int" none with kind := .primitive 'I', accessFlags := 0x411 }
/-- [I -/
def k8 : Class := { plain "[I" (some 0) with kind := .array 7 .int, interfaces := #[3, 4], accessFlags := 1041 }

def heap : Heap := #[]
def classes : Array Class := #[k0, k1, k2, k3, k4, k5, k6, k7, k8]
def interned : List (Array UInt16 × Addr) := []
def slotsUsed : Nat := 0
def theMethod : MethodId := ⟨1, 2⟩
def args0 : Array Value := #[.int 65, .int 5, .int 2]
def aboutOver (below : List Frame) : State where
  vm := { classes := classes, interned := interned.toArray }
  heap := heap
  slotsUsed := slotsUsed
  threads := #[{ frames := .invoking theMethod args0 :: below }]
def below0 : List Frame := [.native { method := ⟨0, 0⟩, args := #[] }]
def about1 : State := aboutOver below0
def p0 : Program := .bare "" "" ""
def e0 : Env := launch0.env 0 0 0
theorem w_frames : about1.frames = Frame.invoking theMethod args0 :: below0 := rfl
set_option maxRecDepth 65536 in
theorem w_args : argsFit about1.vm theMethod args0 = true := by decide +kernel
set_option maxRecDepth 65536 in
theorem w_heap : heapFits about1 = true := by decide +kernel
set_option maxRecDepth 65536 in
theorem w_runnable : about1.curStatus? = some .runnable := by decide +kernel
set_option maxRecDepth 65536 in
theorem w_alone : about1.alone = true := by decide +kernel
set_option maxRecDepth 65536 in
theorem w_named : about1.methodNamed? x = some theMethod := by decide +kernel
set_option maxRecDepth 65536 in
theorem w_hears : about1.hears theMethod below0 = true := by decide +kernel
set_option maxRecDepth 65536 in
theorem w_ripe : about1.ripe theMethod args0 below0 = true := by decide +kernel
theorem w_running : about1.status = .running := rfl
set_option maxRecDepth 65536 in
theorem w_room : about1.hasRoom e0.platform room_1 = true :=
  launch0.hasRoom_least _ room_1 (by decide +kernel) (by decide +kernel) (by decide +kernel) (by decide +kernel) (by decide +kernel) (by decide +kernel)
theorem allAtoms_all (ts : List Jvm.Cond) (a : Array Jvm.Value) (st : Jvm.State) : (allAtoms ts).before a st = ts.all (fun c => c.before a st) := by
  induction ts with
  | nil => rfl
  | cons c t ih =>
    show (Jvm.Cond.and c (allAtoms t)).before a st = _
    rw [Jvm.Cond.before_and, ih, List.all_cons]
def words1 : List Jvm.Cond := Jvm.Cond.code x code maxLocals ret :: tables_1
/-- a 'code' word, met by the world's own term for the bytes: nothing is compared byte by byte -/
theorem code_word {y : MethodName} {bytes : ByteArray} {mx : Nat} {rt : Option FieldType} {a : Array Value} {s : State} {m : MethodId} {meth : Method} {c : Code} (h1 : s.methodNamed? y = some m) (h2 : s.vm.method? m = some meth) (h3 : meth.code = some c) (h4 : c.code = bytes)
    (h5 : (c.maxLocals == mx && c.exceptionTable.isEmpty && decide (c.maxStack ≤ mostOperands) && decide (meth.sig.returnType = rt) && !meth.locks && decide (parseMethodDescriptor y.desc = some meth.sig)) = true) : (Jvm.Cond.code y bytes mx rt).before a s = true := by
  simp only [Bool.and_eq_true, beq_iff_eq, Bool.not_eq_true', decide_eq_true_eq] at h5
  obtain ⟨⟨⟨⟨⟨g1, g2⟩, g3⟩, g4⟩, g5⟩, g6⟩ := h5
  simp [Cond.before, Cond.holds, Cond.value, h1, h2, h3, h4, g1, g2, g3, g4, g5, g6]
def isCode : Jvm.Cond → Bool
  | .code _ _ _ _ => true
  | _ => false
theorem all_split {L : List Jvm.Cond} {P : Jvm.Cond → Bool} (h1 : L.all (fun c => isCode c || P c) = true) (h2 : ∀ c ∈ L.filter isCode, P c = true) : L.all P = true := by
  refine List.all_eq_true.mpr fun c hc => ?_
  have h := List.all_eq_true.mp h1 c hc
  rcases Bool.eq_false_or_eq_true (isCode c) with hi | hi
  · exact h2 c (List.mem_filter.mpr ⟨hc, hi⟩)
  · simpa [hi] using h
set_option maxRecDepth 65536 in
theorem w_c0 : (Jvm.Cond.code x code maxLocals ret).before args0 about1 = true := code_word (m := ⟨1, 2⟩) (meth := k1m2) (c := k1c2) (by decide +kernel) rfl rfl rfl (by decide +kernel)
set_option maxRecDepth 65536 in
theorem w_c1 : (Jvm.Cond.code ({ cls := "com/example/libxdm/libxdm/model/XmlNames", name := "isCharacter", desc := "(I)Z" } : Jvm.MethodName) prog_162_method_2_code (1 : Nat) (Option.some Jvm.ClassFile.FieldType.boolean)).before args0 about1 = true := code_word (m := ⟨2, 1⟩) (meth := k2m1) (c := k2c1) (by decide +kernel) rfl rfl rfl (by decide +kernel)
set_option maxRecDepth 65536 in
theorem w_c2 : (Jvm.Cond.code ({ cls := "com/example/libxdm/libxdm/model/XmlNamesIsCharacterPinLaw", name := "expected", desc := "(I)Z" } : Jvm.MethodName) method_2_code (1 : Nat) (Option.some Jvm.ClassFile.FieldType.boolean)).before args0 about1 = true := code_word (m := ⟨1, 1⟩) (meth := k1m1) (c := k1c1) (by decide +kernel) rfl rfl rfl (by decide +kernel)
def codes1 : List Jvm.Cond := [Jvm.Cond.code x code maxLocals ret, Jvm.Cond.code ({ cls := "com/example/libxdm/libxdm/model/XmlNames", name := "isCharacter", desc := "(I)Z" } : Jvm.MethodName) prog_162_method_2_code (1 : Nat) (Option.some Jvm.ClassFile.FieldType.boolean), Jvm.Cond.code ({ cls := "com/example/libxdm/libxdm/model/XmlNamesIsCharacterPinLaw", name := "expected", desc := "(I)Z" } : Jvm.MethodName) method_2_code (1 : Nat) (Option.some Jvm.ClassFile.FieldType.boolean)]
set_option maxRecDepth 65536 in
theorem codes_eq : words1.filter isCode = codes1 := rfl
theorem w_codes : ∀ c ∈ words1.filter isCode, c.before args0 about1 = true := by
  rw [codes_eq]
  intro c hc
  simp only [codes1, List.mem_cons, List.not_mem_nil, or_false] at hc
  rcases hc with rfl | rfl | rfl
  · exact w_c0
  · exact w_c1
  · exact w_c2
set_option maxRecDepth 65536 in
theorem w_t1 : (words1.take 24).all (fun c => isCode c || c.before args0 about1) = true := by decide +kernel
set_option maxRecDepth 65536 in
theorem w_t2 : (words1.drop 24).all (fun c => isCode c || c.before args0 about1) = true := by decide +kernel
theorem w_tables : (allAtoms (Jvm.Cond.code x code maxLocals ret :: tables_1)).before args0 about1 = true := by
  rw [allAtoms_all]
  show words1.all (fun c => c.before args0 about1) = true
  refine all_split ?_ w_codes
  rw [← List.take_append_drop 24 words1, List.all_append, w_t1, w_t2]
  rfl
set_option maxRecDepth 65536 in
theorem w_case : (Jvm.Cond.and given_1 narrow_1).before args0 about1 = true := by decide +kernel
theorem w_applies : (headSpec (Jvm.Cond.code x code maxLocals ret :: tables_1) room_1).applies x e0.platform about1 = true :=
  (Spec.applies_iff w_frames).mpr ⟨w_running, w_runnable, w_alone, w_named, w_hears, w_ripe, w_room, w_tables⟩
theorem atStart : AtStart classFile x code maxLocals ret World_1 tables_1 room_1 Calls_1 rest_1 Pre_1 launch0 p0 e0 about1 theMethod args0 below0 :=
  ⟨lists_1, trivial, launch0.admits_env _ _ _, launch0.least_env, fairChoices_fair.cas, fairChoices_fair.clock, w_frames, w_args, w_heap, w_applies, trivial, trivial, w_case⟩
end start1
theorem witness_1 : WitnessClaimed_1 := ⟨start1.p0, start1.e0, start1.about1, start1.theMethod, start1.args0, start1.below0, start1.atStart⟩
end Jvm.Pilot.@@N@@
