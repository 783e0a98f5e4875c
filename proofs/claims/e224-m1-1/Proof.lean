import JvmDerived
import JvmDerived.Pilot.@@N@@Statement
import JvmDerived.Pilot.@@N@@Code
set_option linter.unusedVariables false
set_option linter.unusedSimpArgs false
@@BLOCK:NumsL.lean.txt@@
namespace Jvm.Pilot.@@N@@
open Jvm Jvm.ClassFile Sem Op Lib Jvm.Free Jvm.Stand Jvm.LawKit Jvm.RoadKit Bundle Jvm.Pilot.@@N@@.Jvm.D
theorem d1_0 : decode prog_162_method_6_code 0 = .ok (.iload_n 0, 1) := by decide +kernel
theorem d1_1 : decode prog_162_method_6_code 1 = .ok (.bipush 65, 2) := by decide +kernel
theorem d1_3 : decode prog_162_method_6_code 3 = .ok (.if_icmp .lt 9, 3) := by decide +kernel
theorem d1_6 : decode prog_162_method_6_code 6 = .ok (.iload_n 0, 1) := by decide +kernel
theorem d1_7 : decode prog_162_method_6_code 7 = .ok (.bipush 90, 2) := by decide +kernel
theorem d1_9 : decode prog_162_method_6_code 9 = .ok (.if_icmp .le 182, 3) := by decide +kernel
theorem d1_12 : decode prog_162_method_6_code 12 = .ok (.iload_n 0, 1) := by decide +kernel
theorem d1_13 : decode prog_162_method_6_code 13 = .ok (.bipush 97, 2) := by decide +kernel
theorem d1_15 : decode prog_162_method_6_code 15 = .ok (.if_icmp .lt 9, 3) := by decide +kernel
theorem d1_18 : decode prog_162_method_6_code 18 = .ok (.iload_n 0, 1) := by decide +kernel
theorem d1_19 : decode prog_162_method_6_code 19 = .ok (.bipush 122, 2) := by decide +kernel
theorem d1_21 : decode prog_162_method_6_code 21 = .ok (.if_icmp .le 170, 3) := by decide +kernel
theorem d1_24 : decode prog_162_method_6_code 24 = .ok (.iload_n 0, 1) := by decide +kernel
theorem d1_25 : decode prog_162_method_6_code 25 = .ok (.bipush 95, 2) := by decide +kernel
theorem d1_27 : decode prog_162_method_6_code 27 = .ok (.if_icmp .eq 164, 3) := by decide +kernel
theorem d1_30 : decode prog_162_method_6_code 30 = .ok (.iload_n 0, 1) := by decide +kernel
theorem d1_31 : decode prog_162_method_6_code 31 = .ok (.sipush 192, 3) := by decide +kernel
theorem d1_34 : decode prog_162_method_6_code 34 = .ok (.if_icmp .lt 10, 3) := by decide +kernel
theorem d1_37 : decode prog_162_method_6_code 37 = .ok (.iload_n 0, 1) := by decide +kernel
theorem d1_38 : decode prog_162_method_6_code 38 = .ok (.sipush 214, 3) := by decide +kernel
theorem d1_41 : decode prog_162_method_6_code 41 = .ok (.if_icmp .le 150, 3) := by decide +kernel
theorem d1_44 : decode prog_162_method_6_code 44 = .ok (.iload_n 0, 1) := by decide +kernel
theorem d1_45 : decode prog_162_method_6_code 45 = .ok (.sipush 216, 3) := by decide +kernel
theorem d1_48 : decode prog_162_method_6_code 48 = .ok (.if_icmp .lt 10, 3) := by decide +kernel
theorem d1_51 : decode prog_162_method_6_code 51 = .ok (.iload_n 0, 1) := by decide +kernel
theorem d1_52 : decode prog_162_method_6_code 52 = .ok (.sipush 246, 3) := by decide +kernel
theorem d1_55 : decode prog_162_method_6_code 55 = .ok (.if_icmp .le 136, 3) := by decide +kernel
theorem d1_58 : decode prog_162_method_6_code 58 = .ok (.iload_n 0, 1) := by decide +kernel
theorem d1_59 : decode prog_162_method_6_code 59 = .ok (.sipush 248, 3) := by decide +kernel
theorem d1_62 : decode prog_162_method_6_code 62 = .ok (.if_icmp .lt 10, 3) := by decide +kernel
theorem d1_65 : decode prog_162_method_6_code 65 = .ok (.iload_n 0, 1) := by decide +kernel
theorem d1_66 : decode prog_162_method_6_code 66 = .ok (.sipush 767, 3) := by decide +kernel
theorem d1_69 : decode prog_162_method_6_code 69 = .ok (.if_icmp .le 122, 3) := by decide +kernel
theorem d1_72 : decode prog_162_method_6_code 72 = .ok (.iload_n 0, 1) := by decide +kernel
theorem d1_73 : decode prog_162_method_6_code 73 = .ok (.sipush 880, 3) := by decide +kernel
theorem d1_76 : decode prog_162_method_6_code 76 = .ok (.if_icmp .lt 10, 3) := by decide +kernel
theorem d1_79 : decode prog_162_method_6_code 79 = .ok (.iload_n 0, 1) := by decide +kernel
theorem d1_80 : decode prog_162_method_6_code 80 = .ok (.sipush 893, 3) := by decide +kernel
theorem d1_83 : decode prog_162_method_6_code 83 = .ok (.if_icmp .le 108, 3) := by decide +kernel
theorem d1_86 : decode prog_162_method_6_code 86 = .ok (.iload_n 0, 1) := by decide +kernel
theorem d1_87 : decode prog_162_method_6_code 87 = .ok (.sipush 895, 3) := by decide +kernel
theorem d1_90 : decode prog_162_method_6_code 90 = .ok (.if_icmp .lt 10, 3) := by decide +kernel
theorem d1_93 : decode prog_162_method_6_code 93 = .ok (.iload_n 0, 1) := by decide +kernel
theorem d1_94 : decode prog_162_method_6_code 94 = .ok (.sipush 8191, 3) := by decide +kernel
theorem d1_97 : decode prog_162_method_6_code 97 = .ok (.if_icmp .le 94, 3) := by decide +kernel
theorem d1_100 : decode prog_162_method_6_code 100 = .ok (.iload_n 0, 1) := by decide +kernel
theorem d1_101 : decode prog_162_method_6_code 101 = .ok (.sipush 8204, 3) := by decide +kernel
theorem d1_104 : decode prog_162_method_6_code 104 = .ok (.if_icmp .lt 10, 3) := by decide +kernel
theorem d1_107 : decode prog_162_method_6_code 107 = .ok (.iload_n 0, 1) := by decide +kernel
theorem d1_108 : decode prog_162_method_6_code 108 = .ok (.sipush 8205, 3) := by decide +kernel
theorem d1_111 : decode prog_162_method_6_code 111 = .ok (.if_icmp .le 80, 3) := by decide +kernel
theorem d1_114 : decode prog_162_method_6_code 114 = .ok (.iload_n 0, 1) := by decide +kernel
theorem d1_115 : decode prog_162_method_6_code 115 = .ok (.sipush 8304, 3) := by decide +kernel
theorem d1_118 : decode prog_162_method_6_code 118 = .ok (.if_icmp .lt 10, 3) := by decide +kernel
theorem d1_121 : decode prog_162_method_6_code 121 = .ok (.iload_n 0, 1) := by decide +kernel
theorem d1_122 : decode prog_162_method_6_code 122 = .ok (.sipush 8591, 3) := by decide +kernel
theorem d1_125 : decode prog_162_method_6_code 125 = .ok (.if_icmp .le 66, 3) := by decide +kernel
theorem d1_128 : decode prog_162_method_6_code 128 = .ok (.iload_n 0, 1) := by decide +kernel
theorem d1_129 : decode prog_162_method_6_code 129 = .ok (.sipush 11264, 3) := by decide +kernel
theorem d1_132 : decode prog_162_method_6_code 132 = .ok (.if_icmp .lt 10, 3) := by decide +kernel
theorem d1_135 : decode prog_162_method_6_code 135 = .ok (.iload_n 0, 1) := by decide +kernel
theorem d1_136 : decode prog_162_method_6_code 136 = .ok (.sipush 12271, 3) := by decide +kernel
theorem d1_139 : decode prog_162_method_6_code 139 = .ok (.if_icmp .le 52, 3) := by decide +kernel
theorem d1_142 : decode prog_162_method_6_code 142 = .ok (.iload_n 0, 1) := by decide +kernel
theorem d1_143 : decode prog_162_method_6_code 143 = .ok (.sipush 12289, 3) := by decide +kernel
theorem d1_146 : decode prog_162_method_6_code 146 = .ok (.if_icmp .lt 9, 3) := by decide +kernel
theorem d1_149 : decode prog_162_method_6_code 149 = .ok (.iload_n 0, 1) := by decide +kernel
theorem d1_150 : decode prog_162_method_6_code 150 = .ok (.ldc 7, 2) := by decide +kernel
theorem d1_152 : decode prog_162_method_6_code 152 = .ok (.if_icmp .le 39, 3) := by decide +kernel
theorem d1_155 : decode prog_162_method_6_code 155 = .ok (.iload_n 0, 1) := by decide +kernel
theorem d1_156 : decode prog_162_method_6_code 156 = .ok (.ldc 51, 2) := by decide +kernel
theorem d1_158 : decode prog_162_method_6_code 158 = .ok (.if_icmp .lt 9, 3) := by decide +kernel
theorem d1_161 : decode prog_162_method_6_code 161 = .ok (.iload_n 0, 1) := by decide +kernel
theorem d1_162 : decode prog_162_method_6_code 162 = .ok (.ldc 52, 2) := by decide +kernel
theorem d1_164 : decode prog_162_method_6_code 164 = .ok (.if_icmp .le 27, 3) := by decide +kernel
theorem d1_167 : decode prog_162_method_6_code 167 = .ok (.iload_n 0, 1) := by decide +kernel
theorem d1_168 : decode prog_162_method_6_code 168 = .ok (.ldc 53, 2) := by decide +kernel
theorem d1_170 : decode prog_162_method_6_code 170 = .ok (.if_icmp .lt 9, 3) := by decide +kernel
theorem d1_173 : decode prog_162_method_6_code 173 = .ok (.iload_n 0, 1) := by decide +kernel
theorem d1_174 : decode prog_162_method_6_code 174 = .ok (.ldc 9, 2) := by decide +kernel
theorem d1_176 : decode prog_162_method_6_code 176 = .ok (.if_icmp .le 15, 3) := by decide +kernel
theorem d1_179 : decode prog_162_method_6_code 179 = .ok (.iload_n 0, 1) := by decide +kernel
theorem d1_180 : decode prog_162_method_6_code 180 = .ok (.ldc 10, 2) := by decide +kernel
theorem d1_182 : decode prog_162_method_6_code 182 = .ok (.if_icmp .lt 13, 3) := by decide +kernel
theorem d1_185 : decode prog_162_method_6_code 185 = .ok (.iload_n 0, 1) := by decide +kernel
theorem d1_186 : decode prog_162_method_6_code 186 = .ok (.ldc 54, 2) := by decide +kernel
theorem d1_188 : decode prog_162_method_6_code 188 = .ok (.if_icmp .gt 7, 3) := by decide +kernel
theorem d1_191 : decode prog_162_method_6_code 191 = .ok (.iconst 1, 1) := by decide +kernel
theorem d1_192 : decode prog_162_method_6_code 192 = .ok (.goto 4, 3) := by decide +kernel
theorem d1_195 : decode prog_162_method_6_code 195 = .ok (.iconst 0, 1) := by decide +kernel
theorem d1_196 : decode prog_162_method_6_code 196 = .ok (.ireturn, 1) := by decide +kernel
def v1_195 (x : Int32) : Int32 := (0 : Int32)
set_option maxRecDepth 65536 in
set_option maxHeartbeats 40000000 in
theorem b1_195 {p : Program} {l : Launch} {e : Env} {R : Room} {s : State} {m : MethodId} {args : Array Value} {below : List Frame} {meth : Method} {c : Code} {T : State} {locs : List Loc} {cells slots : Nat} {Z : State} {a0 : Array Value} (X : Stand p l e R s m args below meth c T locs cells slots) (hx : p.tables.exec = Jvm.exec) (hZ : Z.Warmed39 s.vm) (hw : ∀ d ∈ tables_1, d.before a0 Z = true) (hby : c.code = prog_162_method_6_code) (hown : s.vm.findClass "com/example/libxdm/libxdm/model/XmlNames" = some m.cls) (hret : meth.sig.returnType = some .boolean) (x w : Int32) (hv : v1_195 x = w) {fs : List Frame} (hr : ∀ (f : JFrame) (acts : List Action), f.method = m → f.locked = none → f.entered = [] → (doReturn e (T.setTop f) acts (some (.int w))).1 = T.setFrames fs) : Steps p.tables e below (T.setTop (mkF m 195 #[.val (.int x)] [])) (T.setFrames fs) := by
  change (0 : Int32) = w at hv
  show Steps p.tables e below (T.setTop (mkF m 195 #[.val (.int x)] [])) _
  refine XS.iconst X.here hx rfl (hb hby d1_195) ?_
  show Steps p.tables e below (T.setTop (mkF m 196 #[.val (.int x)] [(.int (0 : Int32))])) _
  subst hv
  exact retN X hx (t := .boolean) hret (by simp) (hb hby d1_196) hr
def v1_191 (x : Int32) : Int32 := (1 : Int32)
set_option maxRecDepth 65536 in
set_option maxHeartbeats 40000000 in
theorem b1_191 {p : Program} {l : Launch} {e : Env} {R : Room} {s : State} {m : MethodId} {args : Array Value} {below : List Frame} {meth : Method} {c : Code} {T : State} {locs : List Loc} {cells slots : Nat} {Z : State} {a0 : Array Value} (X : Stand p l e R s m args below meth c T locs cells slots) (hx : p.tables.exec = Jvm.exec) (hZ : Z.Warmed39 s.vm) (hw : ∀ d ∈ tables_1, d.before a0 Z = true) (hby : c.code = prog_162_method_6_code) (hown : s.vm.findClass "com/example/libxdm/libxdm/model/XmlNames" = some m.cls) (hret : meth.sig.returnType = some .boolean) (x w : Int32) (hv : v1_191 x = w) {fs : List Frame} (hr : ∀ (f : JFrame) (acts : List Action), f.method = m → f.locked = none → f.entered = [] → (doReturn e (T.setTop f) acts (some (.int w))).1 = T.setFrames fs) : Steps p.tables e below (T.setTop (mkF m 191 #[.val (.int x)] [])) (T.setFrames fs) := by
  change (1 : Int32) = w at hv
  show Steps p.tables e below (T.setTop (mkF m 191 #[.val (.int x)] [])) _
  refine XS.iconst X.here hx rfl (hb hby d1_191) ?_
  show Steps p.tables e below (T.setTop (mkF m 192 #[.val (.int x)] [(.int (1 : Int32))])) _
  refine XS.goto X.here hx rfl (pc0 := 192) (pc' := 196) rfl (hb hby d1_192) (by decide) (by decide) ?_
  show Steps p.tables e below (T.setTop (mkF m 196 #[.val (.int x)] [(.int (1 : Int32))])) _
  subst hv
  exact retN X hx (t := .boolean) hret (by simp) (hb hby d1_196) hr
def v1_185 (x : Int32) : Int32 := (if (983039 : Int32) < x then v1_195 x else v1_191 x)
set_option maxRecDepth 65536 in
set_option maxHeartbeats 40000000 in
theorem b1_185 {p : Program} {l : Launch} {e : Env} {R : Room} {s : State} {m : MethodId} {args : Array Value} {below : List Frame} {meth : Method} {c : Code} {T : State} {locs : List Loc} {cells slots : Nat} {Z : State} {a0 : Array Value} (X : Stand p l e R s m args below meth c T locs cells slots) (hx : p.tables.exec = Jvm.exec) (hZ : Z.Warmed39 s.vm) (hw : ∀ d ∈ tables_1, d.before a0 Z = true) (hby : c.code = prog_162_method_6_code) (hown : s.vm.findClass "com/example/libxdm/libxdm/model/XmlNames" = some m.cls) (hret : meth.sig.returnType = some .boolean) (x w : Int32) (hv : v1_185 x = w) {fs : List Frame} (hr : ∀ (f : JFrame) (acts : List Action), f.method = m → f.locked = none → f.entered = [] → (doReturn e (T.setTop f) acts (some (.int w))).1 = T.setFrames fs) : Steps p.tables e below (T.setTop (mkF m 185 #[.val (.int x)] [])) (T.setFrames fs) := by
  change (if (983039 : Int32) < x then v1_195 x else v1_191 x) = w at hv
  show Steps p.tables e below (T.setTop (mkF m 185 #[.val (.int x)] [])) _
  refine XS.iloadN X.here hx rfl (hb hby d1_185) rfl ?_
  show Steps p.tables e below (T.setTop (mkF m 186 #[.val (.int x)] [(.int x)])) _
  refine X.ldcI hx hown (v := (983039 : Int32)) (mvT hZ (hw _ (List.mem_of_getElem? (i := 32) rfl))) rfl (hb hby d1_186) ?_
  show Steps p.tables e below (T.setTop (mkF m 188 #[.val (.int x)] [(.int (983039 : Int32)), (.int x)])) _
  by_cases hc0 : (983039 : Int32) < x
  · rw [if_pos hc0] at hv
    refine XS.icmpYes X.here hx rfl (pc0 := 188) (pc' := 195) rfl (hb hby d1_188) rfl (tlt hc0).2.2.1 (by decide) (by decide) ?_
    exact b1_195 X hx hZ hw hby hown hret x w hv hr
  · rw [if_neg hc0] at hv
    refine XS.icmpNo X.here hx rfl (hb hby d1_188) rfl (flt hc0).2.2.1 ?_
    exact b1_191 X hx hZ hw hby hown hret x w hv hr
def v1_179 (x : Int32) : Int32 := (if x < (65536 : Int32) then v1_195 x else v1_185 x)
set_option maxRecDepth 65536 in
set_option maxHeartbeats 40000000 in
theorem b1_179 {p : Program} {l : Launch} {e : Env} {R : Room} {s : State} {m : MethodId} {args : Array Value} {below : List Frame} {meth : Method} {c : Code} {T : State} {locs : List Loc} {cells slots : Nat} {Z : State} {a0 : Array Value} (X : Stand p l e R s m args below meth c T locs cells slots) (hx : p.tables.exec = Jvm.exec) (hZ : Z.Warmed39 s.vm) (hw : ∀ d ∈ tables_1, d.before a0 Z = true) (hby : c.code = prog_162_method_6_code) (hown : s.vm.findClass "com/example/libxdm/libxdm/model/XmlNames" = some m.cls) (hret : meth.sig.returnType = some .boolean) (x w : Int32) (hv : v1_179 x = w) {fs : List Frame} (hr : ∀ (f : JFrame) (acts : List Action), f.method = m → f.locked = none → f.entered = [] → (doReturn e (T.setTop f) acts (some (.int w))).1 = T.setFrames fs) : Steps p.tables e below (T.setTop (mkF m 179 #[.val (.int x)] [])) (T.setFrames fs) := by
  change (if x < (65536 : Int32) then v1_195 x else v1_185 x) = w at hv
  show Steps p.tables e below (T.setTop (mkF m 179 #[.val (.int x)] [])) _
  refine XS.iloadN X.here hx rfl (hb hby d1_179) rfl ?_
  show Steps p.tables e below (T.setTop (mkF m 180 #[.val (.int x)] [(.int x)])) _
  refine X.ldcI hx hown (v := (65536 : Int32)) (mvT hZ (hw _ (List.mem_of_getElem? (i := 17) rfl))) rfl (hb hby d1_180) ?_
  show Steps p.tables e below (T.setTop (mkF m 182 #[.val (.int x)] [(.int (65536 : Int32)), (.int x)])) _
  by_cases hc0 : x < (65536 : Int32)
  · rw [if_pos hc0] at hv
    refine XS.icmpYes X.here hx rfl (pc0 := 182) (pc' := 195) rfl (hb hby d1_182) rfl (tlt hc0).1 (by decide) (by decide) ?_
    exact b1_195 X hx hZ hw hby hown hret x w hv hr
  · rw [if_neg hc0] at hv
    refine XS.icmpNo X.here hx rfl (hb hby d1_182) rfl (flt hc0).1 ?_
    exact b1_185 X hx hZ hw hby hown hret x w hv hr
def v1_173 (x : Int32) : Int32 := (if (65533 : Int32) < x then v1_179 x else v1_191 x)
set_option maxRecDepth 65536 in
set_option maxHeartbeats 40000000 in
theorem b1_173 {p : Program} {l : Launch} {e : Env} {R : Room} {s : State} {m : MethodId} {args : Array Value} {below : List Frame} {meth : Method} {c : Code} {T : State} {locs : List Loc} {cells slots : Nat} {Z : State} {a0 : Array Value} (X : Stand p l e R s m args below meth c T locs cells slots) (hx : p.tables.exec = Jvm.exec) (hZ : Z.Warmed39 s.vm) (hw : ∀ d ∈ tables_1, d.before a0 Z = true) (hby : c.code = prog_162_method_6_code) (hown : s.vm.findClass "com/example/libxdm/libxdm/model/XmlNames" = some m.cls) (hret : meth.sig.returnType = some .boolean) (x w : Int32) (hv : v1_173 x = w) {fs : List Frame} (hr : ∀ (f : JFrame) (acts : List Action), f.method = m → f.locked = none → f.entered = [] → (doReturn e (T.setTop f) acts (some (.int w))).1 = T.setFrames fs) : Steps p.tables e below (T.setTop (mkF m 173 #[.val (.int x)] [])) (T.setFrames fs) := by
  change (if (65533 : Int32) < x then v1_179 x else v1_191 x) = w at hv
  show Steps p.tables e below (T.setTop (mkF m 173 #[.val (.int x)] [])) _
  refine XS.iloadN X.here hx rfl (hb hby d1_173) rfl ?_
  show Steps p.tables e below (T.setTop (mkF m 174 #[.val (.int x)] [(.int x)])) _
  refine X.ldcI hx hown (v := (65533 : Int32)) (mvT hZ (hw _ (List.mem_of_getElem? (i := 28) rfl))) rfl (hb hby d1_174) ?_
  show Steps p.tables e below (T.setTop (mkF m 176 #[.val (.int x)] [(.int (65533 : Int32)), (.int x)])) _
  by_cases hc0 : (65533 : Int32) < x
  · rw [if_pos hc0] at hv
    refine XS.icmpNo X.here hx rfl (hb hby d1_176) rfl (tlt hc0).2.2.2 ?_
    exact b1_179 X hx hZ hw hby hown hret x w hv hr
  · rw [if_neg hc0] at hv
    refine XS.icmpYes X.here hx rfl (pc0 := 176) (pc' := 191) rfl (hb hby d1_176) rfl (flt hc0).2.2.2 (by decide) (by decide) ?_
    exact b1_191 X hx hZ hw hby hown hret x w hv hr
def v1_167 (x : Int32) : Int32 := (if x < (65008 : Int32) then v1_179 x else v1_173 x)
set_option maxRecDepth 65536 in
set_option maxHeartbeats 40000000 in
theorem b1_167 {p : Program} {l : Launch} {e : Env} {R : Room} {s : State} {m : MethodId} {args : Array Value} {below : List Frame} {meth : Method} {c : Code} {T : State} {locs : List Loc} {cells slots : Nat} {Z : State} {a0 : Array Value} (X : Stand p l e R s m args below meth c T locs cells slots) (hx : p.tables.exec = Jvm.exec) (hZ : Z.Warmed39 s.vm) (hw : ∀ d ∈ tables_1, d.before a0 Z = true) (hby : c.code = prog_162_method_6_code) (hown : s.vm.findClass "com/example/libxdm/libxdm/model/XmlNames" = some m.cls) (hret : meth.sig.returnType = some .boolean) (x w : Int32) (hv : v1_167 x = w) {fs : List Frame} (hr : ∀ (f : JFrame) (acts : List Action), f.method = m → f.locked = none → f.entered = [] → (doReturn e (T.setTop f) acts (some (.int w))).1 = T.setFrames fs) : Steps p.tables e below (T.setTop (mkF m 167 #[.val (.int x)] [])) (T.setFrames fs) := by
  change (if x < (65008 : Int32) then v1_179 x else v1_173 x) = w at hv
  show Steps p.tables e below (T.setTop (mkF m 167 #[.val (.int x)] [])) _
  refine XS.iloadN X.here hx rfl (hb hby d1_167) rfl ?_
  show Steps p.tables e below (T.setTop (mkF m 168 #[.val (.int x)] [(.int x)])) _
  refine X.ldcI hx hown (v := (65008 : Int32)) (mvT hZ (hw _ (List.mem_of_getElem? (i := 16) rfl))) rfl (hb hby d1_168) ?_
  show Steps p.tables e below (T.setTop (mkF m 170 #[.val (.int x)] [(.int (65008 : Int32)), (.int x)])) _
  by_cases hc0 : x < (65008 : Int32)
  · rw [if_pos hc0] at hv
    refine XS.icmpYes X.here hx rfl (pc0 := 170) (pc' := 179) rfl (hb hby d1_170) rfl (tlt hc0).1 (by decide) (by decide) ?_
    exact b1_179 X hx hZ hw hby hown hret x w hv hr
  · rw [if_neg hc0] at hv
    refine XS.icmpNo X.here hx rfl (hb hby d1_170) rfl (flt hc0).1 ?_
    exact b1_173 X hx hZ hw hby hown hret x w hv hr
def v1_161 (x : Int32) : Int32 := (if (64975 : Int32) < x then v1_167 x else v1_191 x)
set_option maxRecDepth 65536 in
set_option maxHeartbeats 40000000 in
theorem b1_161 {p : Program} {l : Launch} {e : Env} {R : Room} {s : State} {m : MethodId} {args : Array Value} {below : List Frame} {meth : Method} {c : Code} {T : State} {locs : List Loc} {cells slots : Nat} {Z : State} {a0 : Array Value} (X : Stand p l e R s m args below meth c T locs cells slots) (hx : p.tables.exec = Jvm.exec) (hZ : Z.Warmed39 s.vm) (hw : ∀ d ∈ tables_1, d.before a0 Z = true) (hby : c.code = prog_162_method_6_code) (hown : s.vm.findClass "com/example/libxdm/libxdm/model/XmlNames" = some m.cls) (hret : meth.sig.returnType = some .boolean) (x w : Int32) (hv : v1_161 x = w) {fs : List Frame} (hr : ∀ (f : JFrame) (acts : List Action), f.method = m → f.locked = none → f.entered = [] → (doReturn e (T.setTop f) acts (some (.int w))).1 = T.setFrames fs) : Steps p.tables e below (T.setTop (mkF m 161 #[.val (.int x)] [])) (T.setFrames fs) := by
  change (if (64975 : Int32) < x then v1_167 x else v1_191 x) = w at hv
  show Steps p.tables e below (T.setTop (mkF m 161 #[.val (.int x)] [])) _
  refine XS.iloadN X.here hx rfl (hb hby d1_161) rfl ?_
  show Steps p.tables e below (T.setTop (mkF m 162 #[.val (.int x)] [(.int x)])) _
  refine X.ldcI hx hown (v := (64975 : Int32)) (mvT hZ (hw _ (List.mem_of_getElem? (i := 27) rfl))) rfl (hb hby d1_162) ?_
  show Steps p.tables e below (T.setTop (mkF m 164 #[.val (.int x)] [(.int (64975 : Int32)), (.int x)])) _
  by_cases hc0 : (64975 : Int32) < x
  · rw [if_pos hc0] at hv
    refine XS.icmpNo X.here hx rfl (hb hby d1_164) rfl (tlt hc0).2.2.2 ?_
    exact b1_167 X hx hZ hw hby hown hret x w hv hr
  · rw [if_neg hc0] at hv
    refine XS.icmpYes X.here hx rfl (pc0 := 164) (pc' := 191) rfl (hb hby d1_164) rfl (flt hc0).2.2.2 (by decide) (by decide) ?_
    exact b1_191 X hx hZ hw hby hown hret x w hv hr
def v1_155 (x : Int32) : Int32 := (if x < (63744 : Int32) then v1_167 x else v1_161 x)
set_option maxRecDepth 65536 in
set_option maxHeartbeats 40000000 in
theorem b1_155 {p : Program} {l : Launch} {e : Env} {R : Room} {s : State} {m : MethodId} {args : Array Value} {below : List Frame} {meth : Method} {c : Code} {T : State} {locs : List Loc} {cells slots : Nat} {Z : State} {a0 : Array Value} (X : Stand p l e R s m args below meth c T locs cells slots) (hx : p.tables.exec = Jvm.exec) (hZ : Z.Warmed39 s.vm) (hw : ∀ d ∈ tables_1, d.before a0 Z = true) (hby : c.code = prog_162_method_6_code) (hown : s.vm.findClass "com/example/libxdm/libxdm/model/XmlNames" = some m.cls) (hret : meth.sig.returnType = some .boolean) (x w : Int32) (hv : v1_155 x = w) {fs : List Frame} (hr : ∀ (f : JFrame) (acts : List Action), f.method = m → f.locked = none → f.entered = [] → (doReturn e (T.setTop f) acts (some (.int w))).1 = T.setFrames fs) : Steps p.tables e below (T.setTop (mkF m 155 #[.val (.int x)] [])) (T.setFrames fs) := by
  change (if x < (63744 : Int32) then v1_167 x else v1_161 x) = w at hv
  show Steps p.tables e below (T.setTop (mkF m 155 #[.val (.int x)] [])) _
  refine XS.iloadN X.here hx rfl (hb hby d1_155) rfl ?_
  show Steps p.tables e below (T.setTop (mkF m 156 #[.val (.int x)] [(.int x)])) _
  refine X.ldcI hx hown (v := (63744 : Int32)) (mvT hZ (hw _ (List.mem_of_getElem? (i := 15) rfl))) rfl (hb hby d1_156) ?_
  show Steps p.tables e below (T.setTop (mkF m 158 #[.val (.int x)] [(.int (63744 : Int32)), (.int x)])) _
  by_cases hc0 : x < (63744 : Int32)
  · rw [if_pos hc0] at hv
    refine XS.icmpYes X.here hx rfl (pc0 := 158) (pc' := 167) rfl (hb hby d1_158) rfl (tlt hc0).1 (by decide) (by decide) ?_
    exact b1_167 X hx hZ hw hby hown hret x w hv hr
  · rw [if_neg hc0] at hv
    refine XS.icmpNo X.here hx rfl (hb hby d1_158) rfl (flt hc0).1 ?_
    exact b1_161 X hx hZ hw hby hown hret x w hv hr
def v1_149 (x : Int32) : Int32 := (if (55295 : Int32) < x then v1_155 x else v1_191 x)
set_option maxRecDepth 65536 in
set_option maxHeartbeats 40000000 in
theorem b1_149 {p : Program} {l : Launch} {e : Env} {R : Room} {s : State} {m : MethodId} {args : Array Value} {below : List Frame} {meth : Method} {c : Code} {T : State} {locs : List Loc} {cells slots : Nat} {Z : State} {a0 : Array Value} (X : Stand p l e R s m args below meth c T locs cells slots) (hx : p.tables.exec = Jvm.exec) (hZ : Z.Warmed39 s.vm) (hw : ∀ d ∈ tables_1, d.before a0 Z = true) (hby : c.code = prog_162_method_6_code) (hown : s.vm.findClass "com/example/libxdm/libxdm/model/XmlNames" = some m.cls) (hret : meth.sig.returnType = some .boolean) (x w : Int32) (hv : v1_149 x = w) {fs : List Frame} (hr : ∀ (f : JFrame) (acts : List Action), f.method = m → f.locked = none → f.entered = [] → (doReturn e (T.setTop f) acts (some (.int w))).1 = T.setFrames fs) : Steps p.tables e below (T.setTop (mkF m 149 #[.val (.int x)] [])) (T.setFrames fs) := by
  change (if (55295 : Int32) < x then v1_155 x else v1_191 x) = w at hv
  show Steps p.tables e below (T.setTop (mkF m 149 #[.val (.int x)] [])) _
  refine XS.iloadN X.here hx rfl (hb hby d1_149) rfl ?_
  show Steps p.tables e below (T.setTop (mkF m 150 #[.val (.int x)] [(.int x)])) _
  refine X.ldcI hx hown (v := (55295 : Int32)) (mvT hZ (hw _ (List.mem_of_getElem? (i := 26) rfl))) rfl (hb hby d1_150) ?_
  show Steps p.tables e below (T.setTop (mkF m 152 #[.val (.int x)] [(.int (55295 : Int32)), (.int x)])) _
  by_cases hc0 : (55295 : Int32) < x
  · rw [if_pos hc0] at hv
    refine XS.icmpNo X.here hx rfl (hb hby d1_152) rfl (tlt hc0).2.2.2 ?_
    exact b1_155 X hx hZ hw hby hown hret x w hv hr
  · rw [if_neg hc0] at hv
    refine XS.icmpYes X.here hx rfl (pc0 := 152) (pc' := 191) rfl (hb hby d1_152) rfl (flt hc0).2.2.2 (by decide) (by decide) ?_
    exact b1_191 X hx hZ hw hby hown hret x w hv hr
def v1_142 (x : Int32) : Int32 := (if x < (12289 : Int32) then v1_155 x else v1_149 x)
set_option maxRecDepth 65536 in
set_option maxHeartbeats 40000000 in
theorem b1_142 {p : Program} {l : Launch} {e : Env} {R : Room} {s : State} {m : MethodId} {args : Array Value} {below : List Frame} {meth : Method} {c : Code} {T : State} {locs : List Loc} {cells slots : Nat} {Z : State} {a0 : Array Value} (X : Stand p l e R s m args below meth c T locs cells slots) (hx : p.tables.exec = Jvm.exec) (hZ : Z.Warmed39 s.vm) (hw : ∀ d ∈ tables_1, d.before a0 Z = true) (hby : c.code = prog_162_method_6_code) (hown : s.vm.findClass "com/example/libxdm/libxdm/model/XmlNames" = some m.cls) (hret : meth.sig.returnType = some .boolean) (x w : Int32) (hv : v1_142 x = w) {fs : List Frame} (hr : ∀ (f : JFrame) (acts : List Action), f.method = m → f.locked = none → f.entered = [] → (doReturn e (T.setTop f) acts (some (.int w))).1 = T.setFrames fs) : Steps p.tables e below (T.setTop (mkF m 142 #[.val (.int x)] [])) (T.setFrames fs) := by
  change (if x < (12289 : Int32) then v1_155 x else v1_149 x) = w at hv
  show Steps p.tables e below (T.setTop (mkF m 142 #[.val (.int x)] [])) _
  refine XS.iloadN X.here hx rfl (hb hby d1_142) rfl ?_
  show Steps p.tables e below (T.setTop (mkF m 143 #[.val (.int x)] [(.int x)])) _
  refine XS.sipush X.here hx rfl (hb hby d1_143) ?_
  show Steps p.tables e below (T.setTop (mkF m 146 #[.val (.int x)] [(.int (12289 : Int32)), (.int x)])) _
  by_cases hc0 : x < (12289 : Int32)
  · rw [if_pos hc0] at hv
    refine XS.icmpYes X.here hx rfl (pc0 := 146) (pc' := 155) rfl (hb hby d1_146) rfl (tlt hc0).1 (by decide) (by decide) ?_
    exact b1_155 X hx hZ hw hby hown hret x w hv hr
  · rw [if_neg hc0] at hv
    refine XS.icmpNo X.here hx rfl (hb hby d1_146) rfl (flt hc0).1 ?_
    exact b1_149 X hx hZ hw hby hown hret x w hv hr
def v1_135 (x : Int32) : Int32 := (if (12271 : Int32) < x then v1_142 x else v1_191 x)
set_option maxRecDepth 65536 in
set_option maxHeartbeats 40000000 in
theorem b1_135 {p : Program} {l : Launch} {e : Env} {R : Room} {s : State} {m : MethodId} {args : Array Value} {below : List Frame} {meth : Method} {c : Code} {T : State} {locs : List Loc} {cells slots : Nat} {Z : State} {a0 : Array Value} (X : Stand p l e R s m args below meth c T locs cells slots) (hx : p.tables.exec = Jvm.exec) (hZ : Z.Warmed39 s.vm) (hw : ∀ d ∈ tables_1, d.before a0 Z = true) (hby : c.code = prog_162_method_6_code) (hown : s.vm.findClass "com/example/libxdm/libxdm/model/XmlNames" = some m.cls) (hret : meth.sig.returnType = some .boolean) (x w : Int32) (hv : v1_135 x = w) {fs : List Frame} (hr : ∀ (f : JFrame) (acts : List Action), f.method = m → f.locked = none → f.entered = [] → (doReturn e (T.setTop f) acts (some (.int w))).1 = T.setFrames fs) : Steps p.tables e below (T.setTop (mkF m 135 #[.val (.int x)] [])) (T.setFrames fs) := by
  change (if (12271 : Int32) < x then v1_142 x else v1_191 x) = w at hv
  show Steps p.tables e below (T.setTop (mkF m 135 #[.val (.int x)] [])) _
  refine XS.iloadN X.here hx rfl (hb hby d1_135) rfl ?_
  show Steps p.tables e below (T.setTop (mkF m 136 #[.val (.int x)] [(.int x)])) _
  refine XS.sipush X.here hx rfl (hb hby d1_136) ?_
  show Steps p.tables e below (T.setTop (mkF m 139 #[.val (.int x)] [(.int (12271 : Int32)), (.int x)])) _
  by_cases hc0 : (12271 : Int32) < x
  · rw [if_pos hc0] at hv
    refine XS.icmpNo X.here hx rfl (hb hby d1_139) rfl (tlt hc0).2.2.2 ?_
    exact b1_142 X hx hZ hw hby hown hret x w hv hr
  · rw [if_neg hc0] at hv
    refine XS.icmpYes X.here hx rfl (pc0 := 139) (pc' := 191) rfl (hb hby d1_139) rfl (flt hc0).2.2.2 (by decide) (by decide) ?_
    exact b1_191 X hx hZ hw hby hown hret x w hv hr
def v1_128 (x : Int32) : Int32 := (if x < (11264 : Int32) then v1_142 x else v1_135 x)
set_option maxRecDepth 65536 in
set_option maxHeartbeats 40000000 in
theorem b1_128 {p : Program} {l : Launch} {e : Env} {R : Room} {s : State} {m : MethodId} {args : Array Value} {below : List Frame} {meth : Method} {c : Code} {T : State} {locs : List Loc} {cells slots : Nat} {Z : State} {a0 : Array Value} (X : Stand p l e R s m args below meth c T locs cells slots) (hx : p.tables.exec = Jvm.exec) (hZ : Z.Warmed39 s.vm) (hw : ∀ d ∈ tables_1, d.before a0 Z = true) (hby : c.code = prog_162_method_6_code) (hown : s.vm.findClass "com/example/libxdm/libxdm/model/XmlNames" = some m.cls) (hret : meth.sig.returnType = some .boolean) (x w : Int32) (hv : v1_128 x = w) {fs : List Frame} (hr : ∀ (f : JFrame) (acts : List Action), f.method = m → f.locked = none → f.entered = [] → (doReturn e (T.setTop f) acts (some (.int w))).1 = T.setFrames fs) : Steps p.tables e below (T.setTop (mkF m 128 #[.val (.int x)] [])) (T.setFrames fs) := by
  change (if x < (11264 : Int32) then v1_142 x else v1_135 x) = w at hv
  show Steps p.tables e below (T.setTop (mkF m 128 #[.val (.int x)] [])) _
  refine XS.iloadN X.here hx rfl (hb hby d1_128) rfl ?_
  show Steps p.tables e below (T.setTop (mkF m 129 #[.val (.int x)] [(.int x)])) _
  refine XS.sipush X.here hx rfl (hb hby d1_129) ?_
  show Steps p.tables e below (T.setTop (mkF m 132 #[.val (.int x)] [(.int (11264 : Int32)), (.int x)])) _
  by_cases hc0 : x < (11264 : Int32)
  · rw [if_pos hc0] at hv
    refine XS.icmpYes X.here hx rfl (pc0 := 132) (pc' := 142) rfl (hb hby d1_132) rfl (tlt hc0).1 (by decide) (by decide) ?_
    exact b1_142 X hx hZ hw hby hown hret x w hv hr
  · rw [if_neg hc0] at hv
    refine XS.icmpNo X.here hx rfl (hb hby d1_132) rfl (flt hc0).1 ?_
    exact b1_135 X hx hZ hw hby hown hret x w hv hr
def v1_121 (x : Int32) : Int32 := (if (8591 : Int32) < x then v1_128 x else v1_191 x)
set_option maxRecDepth 65536 in
set_option maxHeartbeats 40000000 in
theorem b1_121 {p : Program} {l : Launch} {e : Env} {R : Room} {s : State} {m : MethodId} {args : Array Value} {below : List Frame} {meth : Method} {c : Code} {T : State} {locs : List Loc} {cells slots : Nat} {Z : State} {a0 : Array Value} (X : Stand p l e R s m args below meth c T locs cells slots) (hx : p.tables.exec = Jvm.exec) (hZ : Z.Warmed39 s.vm) (hw : ∀ d ∈ tables_1, d.before a0 Z = true) (hby : c.code = prog_162_method_6_code) (hown : s.vm.findClass "com/example/libxdm/libxdm/model/XmlNames" = some m.cls) (hret : meth.sig.returnType = some .boolean) (x w : Int32) (hv : v1_121 x = w) {fs : List Frame} (hr : ∀ (f : JFrame) (acts : List Action), f.method = m → f.locked = none → f.entered = [] → (doReturn e (T.setTop f) acts (some (.int w))).1 = T.setFrames fs) : Steps p.tables e below (T.setTop (mkF m 121 #[.val (.int x)] [])) (T.setFrames fs) := by
  change (if (8591 : Int32) < x then v1_128 x else v1_191 x) = w at hv
  show Steps p.tables e below (T.setTop (mkF m 121 #[.val (.int x)] [])) _
  refine XS.iloadN X.here hx rfl (hb hby d1_121) rfl ?_
  show Steps p.tables e below (T.setTop (mkF m 122 #[.val (.int x)] [(.int x)])) _
  refine XS.sipush X.here hx rfl (hb hby d1_122) ?_
  show Steps p.tables e below (T.setTop (mkF m 125 #[.val (.int x)] [(.int (8591 : Int32)), (.int x)])) _
  by_cases hc0 : (8591 : Int32) < x
  · rw [if_pos hc0] at hv
    refine XS.icmpNo X.here hx rfl (hb hby d1_125) rfl (tlt hc0).2.2.2 ?_
    exact b1_128 X hx hZ hw hby hown hret x w hv hr
  · rw [if_neg hc0] at hv
    refine XS.icmpYes X.here hx rfl (pc0 := 125) (pc' := 191) rfl (hb hby d1_125) rfl (flt hc0).2.2.2 (by decide) (by decide) ?_
    exact b1_191 X hx hZ hw hby hown hret x w hv hr
def v1_114 (x : Int32) : Int32 := (if x < (8304 : Int32) then v1_128 x else v1_121 x)
set_option maxRecDepth 65536 in
set_option maxHeartbeats 40000000 in
theorem b1_114 {p : Program} {l : Launch} {e : Env} {R : Room} {s : State} {m : MethodId} {args : Array Value} {below : List Frame} {meth : Method} {c : Code} {T : State} {locs : List Loc} {cells slots : Nat} {Z : State} {a0 : Array Value} (X : Stand p l e R s m args below meth c T locs cells slots) (hx : p.tables.exec = Jvm.exec) (hZ : Z.Warmed39 s.vm) (hw : ∀ d ∈ tables_1, d.before a0 Z = true) (hby : c.code = prog_162_method_6_code) (hown : s.vm.findClass "com/example/libxdm/libxdm/model/XmlNames" = some m.cls) (hret : meth.sig.returnType = some .boolean) (x w : Int32) (hv : v1_114 x = w) {fs : List Frame} (hr : ∀ (f : JFrame) (acts : List Action), f.method = m → f.locked = none → f.entered = [] → (doReturn e (T.setTop f) acts (some (.int w))).1 = T.setFrames fs) : Steps p.tables e below (T.setTop (mkF m 114 #[.val (.int x)] [])) (T.setFrames fs) := by
  change (if x < (8304 : Int32) then v1_128 x else v1_121 x) = w at hv
  show Steps p.tables e below (T.setTop (mkF m 114 #[.val (.int x)] [])) _
  refine XS.iloadN X.here hx rfl (hb hby d1_114) rfl ?_
  show Steps p.tables e below (T.setTop (mkF m 115 #[.val (.int x)] [(.int x)])) _
  refine XS.sipush X.here hx rfl (hb hby d1_115) ?_
  show Steps p.tables e below (T.setTop (mkF m 118 #[.val (.int x)] [(.int (8304 : Int32)), (.int x)])) _
  by_cases hc0 : x < (8304 : Int32)
  · rw [if_pos hc0] at hv
    refine XS.icmpYes X.here hx rfl (pc0 := 118) (pc' := 128) rfl (hb hby d1_118) rfl (tlt hc0).1 (by decide) (by decide) ?_
    exact b1_128 X hx hZ hw hby hown hret x w hv hr
  · rw [if_neg hc0] at hv
    refine XS.icmpNo X.here hx rfl (hb hby d1_118) rfl (flt hc0).1 ?_
    exact b1_121 X hx hZ hw hby hown hret x w hv hr
def v1_107 (x : Int32) : Int32 := (if (8205 : Int32) < x then v1_114 x else v1_191 x)
set_option maxRecDepth 65536 in
set_option maxHeartbeats 40000000 in
theorem b1_107 {p : Program} {l : Launch} {e : Env} {R : Room} {s : State} {m : MethodId} {args : Array Value} {below : List Frame} {meth : Method} {c : Code} {T : State} {locs : List Loc} {cells slots : Nat} {Z : State} {a0 : Array Value} (X : Stand p l e R s m args below meth c T locs cells slots) (hx : p.tables.exec = Jvm.exec) (hZ : Z.Warmed39 s.vm) (hw : ∀ d ∈ tables_1, d.before a0 Z = true) (hby : c.code = prog_162_method_6_code) (hown : s.vm.findClass "com/example/libxdm/libxdm/model/XmlNames" = some m.cls) (hret : meth.sig.returnType = some .boolean) (x w : Int32) (hv : v1_107 x = w) {fs : List Frame} (hr : ∀ (f : JFrame) (acts : List Action), f.method = m → f.locked = none → f.entered = [] → (doReturn e (T.setTop f) acts (some (.int w))).1 = T.setFrames fs) : Steps p.tables e below (T.setTop (mkF m 107 #[.val (.int x)] [])) (T.setFrames fs) := by
  change (if (8205 : Int32) < x then v1_114 x else v1_191 x) = w at hv
  show Steps p.tables e below (T.setTop (mkF m 107 #[.val (.int x)] [])) _
  refine XS.iloadN X.here hx rfl (hb hby d1_107) rfl ?_
  show Steps p.tables e below (T.setTop (mkF m 108 #[.val (.int x)] [(.int x)])) _
  refine XS.sipush X.here hx rfl (hb hby d1_108) ?_
  show Steps p.tables e below (T.setTop (mkF m 111 #[.val (.int x)] [(.int (8205 : Int32)), (.int x)])) _
  by_cases hc0 : (8205 : Int32) < x
  · rw [if_pos hc0] at hv
    refine XS.icmpNo X.here hx rfl (hb hby d1_111) rfl (tlt hc0).2.2.2 ?_
    exact b1_114 X hx hZ hw hby hown hret x w hv hr
  · rw [if_neg hc0] at hv
    refine XS.icmpYes X.here hx rfl (pc0 := 111) (pc' := 191) rfl (hb hby d1_111) rfl (flt hc0).2.2.2 (by decide) (by decide) ?_
    exact b1_191 X hx hZ hw hby hown hret x w hv hr
def v1_100 (x : Int32) : Int32 := (if x < (8204 : Int32) then v1_114 x else v1_107 x)
set_option maxRecDepth 65536 in
set_option maxHeartbeats 40000000 in
theorem b1_100 {p : Program} {l : Launch} {e : Env} {R : Room} {s : State} {m : MethodId} {args : Array Value} {below : List Frame} {meth : Method} {c : Code} {T : State} {locs : List Loc} {cells slots : Nat} {Z : State} {a0 : Array Value} (X : Stand p l e R s m args below meth c T locs cells slots) (hx : p.tables.exec = Jvm.exec) (hZ : Z.Warmed39 s.vm) (hw : ∀ d ∈ tables_1, d.before a0 Z = true) (hby : c.code = prog_162_method_6_code) (hown : s.vm.findClass "com/example/libxdm/libxdm/model/XmlNames" = some m.cls) (hret : meth.sig.returnType = some .boolean) (x w : Int32) (hv : v1_100 x = w) {fs : List Frame} (hr : ∀ (f : JFrame) (acts : List Action), f.method = m → f.locked = none → f.entered = [] → (doReturn e (T.setTop f) acts (some (.int w))).1 = T.setFrames fs) : Steps p.tables e below (T.setTop (mkF m 100 #[.val (.int x)] [])) (T.setFrames fs) := by
  change (if x < (8204 : Int32) then v1_114 x else v1_107 x) = w at hv
  show Steps p.tables e below (T.setTop (mkF m 100 #[.val (.int x)] [])) _
  refine XS.iloadN X.here hx rfl (hb hby d1_100) rfl ?_
  show Steps p.tables e below (T.setTop (mkF m 101 #[.val (.int x)] [(.int x)])) _
  refine XS.sipush X.here hx rfl (hb hby d1_101) ?_
  show Steps p.tables e below (T.setTop (mkF m 104 #[.val (.int x)] [(.int (8204 : Int32)), (.int x)])) _
  by_cases hc0 : x < (8204 : Int32)
  · rw [if_pos hc0] at hv
    refine XS.icmpYes X.here hx rfl (pc0 := 104) (pc' := 114) rfl (hb hby d1_104) rfl (tlt hc0).1 (by decide) (by decide) ?_
    exact b1_114 X hx hZ hw hby hown hret x w hv hr
  · rw [if_neg hc0] at hv
    refine XS.icmpNo X.here hx rfl (hb hby d1_104) rfl (flt hc0).1 ?_
    exact b1_107 X hx hZ hw hby hown hret x w hv hr
def v1_93 (x : Int32) : Int32 := (if (8191 : Int32) < x then v1_100 x else v1_191 x)
set_option maxRecDepth 65536 in
set_option maxHeartbeats 40000000 in
theorem b1_93 {p : Program} {l : Launch} {e : Env} {R : Room} {s : State} {m : MethodId} {args : Array Value} {below : List Frame} {meth : Method} {c : Code} {T : State} {locs : List Loc} {cells slots : Nat} {Z : State} {a0 : Array Value} (X : Stand p l e R s m args below meth c T locs cells slots) (hx : p.tables.exec = Jvm.exec) (hZ : Z.Warmed39 s.vm) (hw : ∀ d ∈ tables_1, d.before a0 Z = true) (hby : c.code = prog_162_method_6_code) (hown : s.vm.findClass "com/example/libxdm/libxdm/model/XmlNames" = some m.cls) (hret : meth.sig.returnType = some .boolean) (x w : Int32) (hv : v1_93 x = w) {fs : List Frame} (hr : ∀ (f : JFrame) (acts : List Action), f.method = m → f.locked = none → f.entered = [] → (doReturn e (T.setTop f) acts (some (.int w))).1 = T.setFrames fs) : Steps p.tables e below (T.setTop (mkF m 93 #[.val (.int x)] [])) (T.setFrames fs) := by
  change (if (8191 : Int32) < x then v1_100 x else v1_191 x) = w at hv
  show Steps p.tables e below (T.setTop (mkF m 93 #[.val (.int x)] [])) _
  refine XS.iloadN X.here hx rfl (hb hby d1_93) rfl ?_
  show Steps p.tables e below (T.setTop (mkF m 94 #[.val (.int x)] [(.int x)])) _
  refine XS.sipush X.here hx rfl (hb hby d1_94) ?_
  show Steps p.tables e below (T.setTop (mkF m 97 #[.val (.int x)] [(.int (8191 : Int32)), (.int x)])) _
  by_cases hc0 : (8191 : Int32) < x
  · rw [if_pos hc0] at hv
    refine XS.icmpNo X.here hx rfl (hb hby d1_97) rfl (tlt hc0).2.2.2 ?_
    exact b1_100 X hx hZ hw hby hown hret x w hv hr
  · rw [if_neg hc0] at hv
    refine XS.icmpYes X.here hx rfl (pc0 := 97) (pc' := 191) rfl (hb hby d1_97) rfl (flt hc0).2.2.2 (by decide) (by decide) ?_
    exact b1_191 X hx hZ hw hby hown hret x w hv hr
def v1_86 (x : Int32) : Int32 := (if x < (895 : Int32) then v1_100 x else v1_93 x)
set_option maxRecDepth 65536 in
set_option maxHeartbeats 40000000 in
theorem b1_86 {p : Program} {l : Launch} {e : Env} {R : Room} {s : State} {m : MethodId} {args : Array Value} {below : List Frame} {meth : Method} {c : Code} {T : State} {locs : List Loc} {cells slots : Nat} {Z : State} {a0 : Array Value} (X : Stand p l e R s m args below meth c T locs cells slots) (hx : p.tables.exec = Jvm.exec) (hZ : Z.Warmed39 s.vm) (hw : ∀ d ∈ tables_1, d.before a0 Z = true) (hby : c.code = prog_162_method_6_code) (hown : s.vm.findClass "com/example/libxdm/libxdm/model/XmlNames" = some m.cls) (hret : meth.sig.returnType = some .boolean) (x w : Int32) (hv : v1_86 x = w) {fs : List Frame} (hr : ∀ (f : JFrame) (acts : List Action), f.method = m → f.locked = none → f.entered = [] → (doReturn e (T.setTop f) acts (some (.int w))).1 = T.setFrames fs) : Steps p.tables e below (T.setTop (mkF m 86 #[.val (.int x)] [])) (T.setFrames fs) := by
  change (if x < (895 : Int32) then v1_100 x else v1_93 x) = w at hv
  show Steps p.tables e below (T.setTop (mkF m 86 #[.val (.int x)] [])) _
  refine XS.iloadN X.here hx rfl (hb hby d1_86) rfl ?_
  show Steps p.tables e below (T.setTop (mkF m 87 #[.val (.int x)] [(.int x)])) _
  refine XS.sipush X.here hx rfl (hb hby d1_87) ?_
  show Steps p.tables e below (T.setTop (mkF m 90 #[.val (.int x)] [(.int (895 : Int32)), (.int x)])) _
  by_cases hc0 : x < (895 : Int32)
  · rw [if_pos hc0] at hv
    refine XS.icmpYes X.here hx rfl (pc0 := 90) (pc' := 100) rfl (hb hby d1_90) rfl (tlt hc0).1 (by decide) (by decide) ?_
    exact b1_100 X hx hZ hw hby hown hret x w hv hr
  · rw [if_neg hc0] at hv
    refine XS.icmpNo X.here hx rfl (hb hby d1_90) rfl (flt hc0).1 ?_
    exact b1_93 X hx hZ hw hby hown hret x w hv hr
def v1_79 (x : Int32) : Int32 := (if (893 : Int32) < x then v1_86 x else v1_191 x)
set_option maxRecDepth 65536 in
set_option maxHeartbeats 40000000 in
theorem b1_79 {p : Program} {l : Launch} {e : Env} {R : Room} {s : State} {m : MethodId} {args : Array Value} {below : List Frame} {meth : Method} {c : Code} {T : State} {locs : List Loc} {cells slots : Nat} {Z : State} {a0 : Array Value} (X : Stand p l e R s m args below meth c T locs cells slots) (hx : p.tables.exec = Jvm.exec) (hZ : Z.Warmed39 s.vm) (hw : ∀ d ∈ tables_1, d.before a0 Z = true) (hby : c.code = prog_162_method_6_code) (hown : s.vm.findClass "com/example/libxdm/libxdm/model/XmlNames" = some m.cls) (hret : meth.sig.returnType = some .boolean) (x w : Int32) (hv : v1_79 x = w) {fs : List Frame} (hr : ∀ (f : JFrame) (acts : List Action), f.method = m → f.locked = none → f.entered = [] → (doReturn e (T.setTop f) acts (some (.int w))).1 = T.setFrames fs) : Steps p.tables e below (T.setTop (mkF m 79 #[.val (.int x)] [])) (T.setFrames fs) := by
  change (if (893 : Int32) < x then v1_86 x else v1_191 x) = w at hv
  show Steps p.tables e below (T.setTop (mkF m 79 #[.val (.int x)] [])) _
  refine XS.iloadN X.here hx rfl (hb hby d1_79) rfl ?_
  show Steps p.tables e below (T.setTop (mkF m 80 #[.val (.int x)] [(.int x)])) _
  refine XS.sipush X.here hx rfl (hb hby d1_80) ?_
  show Steps p.tables e below (T.setTop (mkF m 83 #[.val (.int x)] [(.int (893 : Int32)), (.int x)])) _
  by_cases hc0 : (893 : Int32) < x
  · rw [if_pos hc0] at hv
    refine XS.icmpNo X.here hx rfl (hb hby d1_83) rfl (tlt hc0).2.2.2 ?_
    exact b1_86 X hx hZ hw hby hown hret x w hv hr
  · rw [if_neg hc0] at hv
    refine XS.icmpYes X.here hx rfl (pc0 := 83) (pc' := 191) rfl (hb hby d1_83) rfl (flt hc0).2.2.2 (by decide) (by decide) ?_
    exact b1_191 X hx hZ hw hby hown hret x w hv hr
def v1_72 (x : Int32) : Int32 := (if x < (880 : Int32) then v1_86 x else v1_79 x)
set_option maxRecDepth 65536 in
set_option maxHeartbeats 40000000 in
theorem b1_72 {p : Program} {l : Launch} {e : Env} {R : Room} {s : State} {m : MethodId} {args : Array Value} {below : List Frame} {meth : Method} {c : Code} {T : State} {locs : List Loc} {cells slots : Nat} {Z : State} {a0 : Array Value} (X : Stand p l e R s m args below meth c T locs cells slots) (hx : p.tables.exec = Jvm.exec) (hZ : Z.Warmed39 s.vm) (hw : ∀ d ∈ tables_1, d.before a0 Z = true) (hby : c.code = prog_162_method_6_code) (hown : s.vm.findClass "com/example/libxdm/libxdm/model/XmlNames" = some m.cls) (hret : meth.sig.returnType = some .boolean) (x w : Int32) (hv : v1_72 x = w) {fs : List Frame} (hr : ∀ (f : JFrame) (acts : List Action), f.method = m → f.locked = none → f.entered = [] → (doReturn e (T.setTop f) acts (some (.int w))).1 = T.setFrames fs) : Steps p.tables e below (T.setTop (mkF m 72 #[.val (.int x)] [])) (T.setFrames fs) := by
  change (if x < (880 : Int32) then v1_86 x else v1_79 x) = w at hv
  show Steps p.tables e below (T.setTop (mkF m 72 #[.val (.int x)] [])) _
  refine XS.iloadN X.here hx rfl (hb hby d1_72) rfl ?_
  show Steps p.tables e below (T.setTop (mkF m 73 #[.val (.int x)] [(.int x)])) _
  refine XS.sipush X.here hx rfl (hb hby d1_73) ?_
  show Steps p.tables e below (T.setTop (mkF m 76 #[.val (.int x)] [(.int (880 : Int32)), (.int x)])) _
  by_cases hc0 : x < (880 : Int32)
  · rw [if_pos hc0] at hv
    refine XS.icmpYes X.here hx rfl (pc0 := 76) (pc' := 86) rfl (hb hby d1_76) rfl (tlt hc0).1 (by decide) (by decide) ?_
    exact b1_86 X hx hZ hw hby hown hret x w hv hr
  · rw [if_neg hc0] at hv
    refine XS.icmpNo X.here hx rfl (hb hby d1_76) rfl (flt hc0).1 ?_
    exact b1_79 X hx hZ hw hby hown hret x w hv hr
def v1_65 (x : Int32) : Int32 := (if (767 : Int32) < x then v1_72 x else v1_191 x)
set_option maxRecDepth 65536 in
set_option maxHeartbeats 40000000 in
theorem b1_65 {p : Program} {l : Launch} {e : Env} {R : Room} {s : State} {m : MethodId} {args : Array Value} {below : List Frame} {meth : Method} {c : Code} {T : State} {locs : List Loc} {cells slots : Nat} {Z : State} {a0 : Array Value} (X : Stand p l e R s m args below meth c T locs cells slots) (hx : p.tables.exec = Jvm.exec) (hZ : Z.Warmed39 s.vm) (hw : ∀ d ∈ tables_1, d.before a0 Z = true) (hby : c.code = prog_162_method_6_code) (hown : s.vm.findClass "com/example/libxdm/libxdm/model/XmlNames" = some m.cls) (hret : meth.sig.returnType = some .boolean) (x w : Int32) (hv : v1_65 x = w) {fs : List Frame} (hr : ∀ (f : JFrame) (acts : List Action), f.method = m → f.locked = none → f.entered = [] → (doReturn e (T.setTop f) acts (some (.int w))).1 = T.setFrames fs) : Steps p.tables e below (T.setTop (mkF m 65 #[.val (.int x)] [])) (T.setFrames fs) := by
  change (if (767 : Int32) < x then v1_72 x else v1_191 x) = w at hv
  show Steps p.tables e below (T.setTop (mkF m 65 #[.val (.int x)] [])) _
  refine XS.iloadN X.here hx rfl (hb hby d1_65) rfl ?_
  show Steps p.tables e below (T.setTop (mkF m 66 #[.val (.int x)] [(.int x)])) _
  refine XS.sipush X.here hx rfl (hb hby d1_66) ?_
  show Steps p.tables e below (T.setTop (mkF m 69 #[.val (.int x)] [(.int (767 : Int32)), (.int x)])) _
  by_cases hc0 : (767 : Int32) < x
  · rw [if_pos hc0] at hv
    refine XS.icmpNo X.here hx rfl (hb hby d1_69) rfl (tlt hc0).2.2.2 ?_
    exact b1_72 X hx hZ hw hby hown hret x w hv hr
  · rw [if_neg hc0] at hv
    refine XS.icmpYes X.here hx rfl (pc0 := 69) (pc' := 191) rfl (hb hby d1_69) rfl (flt hc0).2.2.2 (by decide) (by decide) ?_
    exact b1_191 X hx hZ hw hby hown hret x w hv hr
def v1_58 (x : Int32) : Int32 := (if x < (248 : Int32) then v1_72 x else v1_65 x)
set_option maxRecDepth 65536 in
set_option maxHeartbeats 40000000 in
theorem b1_58 {p : Program} {l : Launch} {e : Env} {R : Room} {s : State} {m : MethodId} {args : Array Value} {below : List Frame} {meth : Method} {c : Code} {T : State} {locs : List Loc} {cells slots : Nat} {Z : State} {a0 : Array Value} (X : Stand p l e R s m args below meth c T locs cells slots) (hx : p.tables.exec = Jvm.exec) (hZ : Z.Warmed39 s.vm) (hw : ∀ d ∈ tables_1, d.before a0 Z = true) (hby : c.code = prog_162_method_6_code) (hown : s.vm.findClass "com/example/libxdm/libxdm/model/XmlNames" = some m.cls) (hret : meth.sig.returnType = some .boolean) (x w : Int32) (hv : v1_58 x = w) {fs : List Frame} (hr : ∀ (f : JFrame) (acts : List Action), f.method = m → f.locked = none → f.entered = [] → (doReturn e (T.setTop f) acts (some (.int w))).1 = T.setFrames fs) : Steps p.tables e below (T.setTop (mkF m 58 #[.val (.int x)] [])) (T.setFrames fs) := by
  change (if x < (248 : Int32) then v1_72 x else v1_65 x) = w at hv
  show Steps p.tables e below (T.setTop (mkF m 58 #[.val (.int x)] [])) _
  refine XS.iloadN X.here hx rfl (hb hby d1_58) rfl ?_
  show Steps p.tables e below (T.setTop (mkF m 59 #[.val (.int x)] [(.int x)])) _
  refine XS.sipush X.here hx rfl (hb hby d1_59) ?_
  show Steps p.tables e below (T.setTop (mkF m 62 #[.val (.int x)] [(.int (248 : Int32)), (.int x)])) _
  by_cases hc0 : x < (248 : Int32)
  · rw [if_pos hc0] at hv
    refine XS.icmpYes X.here hx rfl (pc0 := 62) (pc' := 72) rfl (hb hby d1_62) rfl (tlt hc0).1 (by decide) (by decide) ?_
    exact b1_72 X hx hZ hw hby hown hret x w hv hr
  · rw [if_neg hc0] at hv
    refine XS.icmpNo X.here hx rfl (hb hby d1_62) rfl (flt hc0).1 ?_
    exact b1_65 X hx hZ hw hby hown hret x w hv hr
def v1_51 (x : Int32) : Int32 := (if (246 : Int32) < x then v1_58 x else v1_191 x)
set_option maxRecDepth 65536 in
set_option maxHeartbeats 40000000 in
theorem b1_51 {p : Program} {l : Launch} {e : Env} {R : Room} {s : State} {m : MethodId} {args : Array Value} {below : List Frame} {meth : Method} {c : Code} {T : State} {locs : List Loc} {cells slots : Nat} {Z : State} {a0 : Array Value} (X : Stand p l e R s m args below meth c T locs cells slots) (hx : p.tables.exec = Jvm.exec) (hZ : Z.Warmed39 s.vm) (hw : ∀ d ∈ tables_1, d.before a0 Z = true) (hby : c.code = prog_162_method_6_code) (hown : s.vm.findClass "com/example/libxdm/libxdm/model/XmlNames" = some m.cls) (hret : meth.sig.returnType = some .boolean) (x w : Int32) (hv : v1_51 x = w) {fs : List Frame} (hr : ∀ (f : JFrame) (acts : List Action), f.method = m → f.locked = none → f.entered = [] → (doReturn e (T.setTop f) acts (some (.int w))).1 = T.setFrames fs) : Steps p.tables e below (T.setTop (mkF m 51 #[.val (.int x)] [])) (T.setFrames fs) := by
  change (if (246 : Int32) < x then v1_58 x else v1_191 x) = w at hv
  show Steps p.tables e below (T.setTop (mkF m 51 #[.val (.int x)] [])) _
  refine XS.iloadN X.here hx rfl (hb hby d1_51) rfl ?_
  show Steps p.tables e below (T.setTop (mkF m 52 #[.val (.int x)] [(.int x)])) _
  refine XS.sipush X.here hx rfl (hb hby d1_52) ?_
  show Steps p.tables e below (T.setTop (mkF m 55 #[.val (.int x)] [(.int (246 : Int32)), (.int x)])) _
  by_cases hc0 : (246 : Int32) < x
  · rw [if_pos hc0] at hv
    refine XS.icmpNo X.here hx rfl (hb hby d1_55) rfl (tlt hc0).2.2.2 ?_
    exact b1_58 X hx hZ hw hby hown hret x w hv hr
  · rw [if_neg hc0] at hv
    refine XS.icmpYes X.here hx rfl (pc0 := 55) (pc' := 191) rfl (hb hby d1_55) rfl (flt hc0).2.2.2 (by decide) (by decide) ?_
    exact b1_191 X hx hZ hw hby hown hret x w hv hr
def v1_44 (x : Int32) : Int32 := (if x < (216 : Int32) then v1_58 x else v1_51 x)
set_option maxRecDepth 65536 in
set_option maxHeartbeats 40000000 in
theorem b1_44 {p : Program} {l : Launch} {e : Env} {R : Room} {s : State} {m : MethodId} {args : Array Value} {below : List Frame} {meth : Method} {c : Code} {T : State} {locs : List Loc} {cells slots : Nat} {Z : State} {a0 : Array Value} (X : Stand p l e R s m args below meth c T locs cells slots) (hx : p.tables.exec = Jvm.exec) (hZ : Z.Warmed39 s.vm) (hw : ∀ d ∈ tables_1, d.before a0 Z = true) (hby : c.code = prog_162_method_6_code) (hown : s.vm.findClass "com/example/libxdm/libxdm/model/XmlNames" = some m.cls) (hret : meth.sig.returnType = some .boolean) (x w : Int32) (hv : v1_44 x = w) {fs : List Frame} (hr : ∀ (f : JFrame) (acts : List Action), f.method = m → f.locked = none → f.entered = [] → (doReturn e (T.setTop f) acts (some (.int w))).1 = T.setFrames fs) : Steps p.tables e below (T.setTop (mkF m 44 #[.val (.int x)] [])) (T.setFrames fs) := by
  change (if x < (216 : Int32) then v1_58 x else v1_51 x) = w at hv
  show Steps p.tables e below (T.setTop (mkF m 44 #[.val (.int x)] [])) _
  refine XS.iloadN X.here hx rfl (hb hby d1_44) rfl ?_
  show Steps p.tables e below (T.setTop (mkF m 45 #[.val (.int x)] [(.int x)])) _
  refine XS.sipush X.here hx rfl (hb hby d1_45) ?_
  show Steps p.tables e below (T.setTop (mkF m 48 #[.val (.int x)] [(.int (216 : Int32)), (.int x)])) _
  by_cases hc0 : x < (216 : Int32)
  · rw [if_pos hc0] at hv
    refine XS.icmpYes X.here hx rfl (pc0 := 48) (pc' := 58) rfl (hb hby d1_48) rfl (tlt hc0).1 (by decide) (by decide) ?_
    exact b1_58 X hx hZ hw hby hown hret x w hv hr
  · rw [if_neg hc0] at hv
    refine XS.icmpNo X.here hx rfl (hb hby d1_48) rfl (flt hc0).1 ?_
    exact b1_51 X hx hZ hw hby hown hret x w hv hr
def v1_37 (x : Int32) : Int32 := (if (214 : Int32) < x then v1_44 x else v1_191 x)
set_option maxRecDepth 65536 in
set_option maxHeartbeats 40000000 in
theorem b1_37 {p : Program} {l : Launch} {e : Env} {R : Room} {s : State} {m : MethodId} {args : Array Value} {below : List Frame} {meth : Method} {c : Code} {T : State} {locs : List Loc} {cells slots : Nat} {Z : State} {a0 : Array Value} (X : Stand p l e R s m args below meth c T locs cells slots) (hx : p.tables.exec = Jvm.exec) (hZ : Z.Warmed39 s.vm) (hw : ∀ d ∈ tables_1, d.before a0 Z = true) (hby : c.code = prog_162_method_6_code) (hown : s.vm.findClass "com/example/libxdm/libxdm/model/XmlNames" = some m.cls) (hret : meth.sig.returnType = some .boolean) (x w : Int32) (hv : v1_37 x = w) {fs : List Frame} (hr : ∀ (f : JFrame) (acts : List Action), f.method = m → f.locked = none → f.entered = [] → (doReturn e (T.setTop f) acts (some (.int w))).1 = T.setFrames fs) : Steps p.tables e below (T.setTop (mkF m 37 #[.val (.int x)] [])) (T.setFrames fs) := by
  change (if (214 : Int32) < x then v1_44 x else v1_191 x) = w at hv
  show Steps p.tables e below (T.setTop (mkF m 37 #[.val (.int x)] [])) _
  refine XS.iloadN X.here hx rfl (hb hby d1_37) rfl ?_
  show Steps p.tables e below (T.setTop (mkF m 38 #[.val (.int x)] [(.int x)])) _
  refine XS.sipush X.here hx rfl (hb hby d1_38) ?_
  show Steps p.tables e below (T.setTop (mkF m 41 #[.val (.int x)] [(.int (214 : Int32)), (.int x)])) _
  by_cases hc0 : (214 : Int32) < x
  · rw [if_pos hc0] at hv
    refine XS.icmpNo X.here hx rfl (hb hby d1_41) rfl (tlt hc0).2.2.2 ?_
    exact b1_44 X hx hZ hw hby hown hret x w hv hr
  · rw [if_neg hc0] at hv
    refine XS.icmpYes X.here hx rfl (pc0 := 41) (pc' := 191) rfl (hb hby d1_41) rfl (flt hc0).2.2.2 (by decide) (by decide) ?_
    exact b1_191 X hx hZ hw hby hown hret x w hv hr
def v1_30 (x : Int32) : Int32 := (if x < (192 : Int32) then v1_44 x else v1_37 x)
set_option maxRecDepth 65536 in
set_option maxHeartbeats 40000000 in
theorem b1_30 {p : Program} {l : Launch} {e : Env} {R : Room} {s : State} {m : MethodId} {args : Array Value} {below : List Frame} {meth : Method} {c : Code} {T : State} {locs : List Loc} {cells slots : Nat} {Z : State} {a0 : Array Value} (X : Stand p l e R s m args below meth c T locs cells slots) (hx : p.tables.exec = Jvm.exec) (hZ : Z.Warmed39 s.vm) (hw : ∀ d ∈ tables_1, d.before a0 Z = true) (hby : c.code = prog_162_method_6_code) (hown : s.vm.findClass "com/example/libxdm/libxdm/model/XmlNames" = some m.cls) (hret : meth.sig.returnType = some .boolean) (x w : Int32) (hv : v1_30 x = w) {fs : List Frame} (hr : ∀ (f : JFrame) (acts : List Action), f.method = m → f.locked = none → f.entered = [] → (doReturn e (T.setTop f) acts (some (.int w))).1 = T.setFrames fs) : Steps p.tables e below (T.setTop (mkF m 30 #[.val (.int x)] [])) (T.setFrames fs) := by
  change (if x < (192 : Int32) then v1_44 x else v1_37 x) = w at hv
  show Steps p.tables e below (T.setTop (mkF m 30 #[.val (.int x)] [])) _
  refine XS.iloadN X.here hx rfl (hb hby d1_30) rfl ?_
  show Steps p.tables e below (T.setTop (mkF m 31 #[.val (.int x)] [(.int x)])) _
  refine XS.sipush X.here hx rfl (hb hby d1_31) ?_
  show Steps p.tables e below (T.setTop (mkF m 34 #[.val (.int x)] [(.int (192 : Int32)), (.int x)])) _
  by_cases hc0 : x < (192 : Int32)
  · rw [if_pos hc0] at hv
    refine XS.icmpYes X.here hx rfl (pc0 := 34) (pc' := 44) rfl (hb hby d1_34) rfl (tlt hc0).1 (by decide) (by decide) ?_
    exact b1_44 X hx hZ hw hby hown hret x w hv hr
  · rw [if_neg hc0] at hv
    refine XS.icmpNo X.here hx rfl (hb hby d1_34) rfl (flt hc0).1 ?_
    exact b1_37 X hx hZ hw hby hown hret x w hv hr
def v1_24 (x : Int32) : Int32 := (if x = (95 : Int32) then v1_191 x else v1_30 x)
set_option maxRecDepth 65536 in
set_option maxHeartbeats 40000000 in
theorem b1_24 {p : Program} {l : Launch} {e : Env} {R : Room} {s : State} {m : MethodId} {args : Array Value} {below : List Frame} {meth : Method} {c : Code} {T : State} {locs : List Loc} {cells slots : Nat} {Z : State} {a0 : Array Value} (X : Stand p l e R s m args below meth c T locs cells slots) (hx : p.tables.exec = Jvm.exec) (hZ : Z.Warmed39 s.vm) (hw : ∀ d ∈ tables_1, d.before a0 Z = true) (hby : c.code = prog_162_method_6_code) (hown : s.vm.findClass "com/example/libxdm/libxdm/model/XmlNames" = some m.cls) (hret : meth.sig.returnType = some .boolean) (x w : Int32) (hv : v1_24 x = w) {fs : List Frame} (hr : ∀ (f : JFrame) (acts : List Action), f.method = m → f.locked = none → f.entered = [] → (doReturn e (T.setTop f) acts (some (.int w))).1 = T.setFrames fs) : Steps p.tables e below (T.setTop (mkF m 24 #[.val (.int x)] [])) (T.setFrames fs) := by
  change (if x = (95 : Int32) then v1_191 x else v1_30 x) = w at hv
  show Steps p.tables e below (T.setTop (mkF m 24 #[.val (.int x)] [])) _
  refine XS.iloadN X.here hx rfl (hb hby d1_24) rfl ?_
  show Steps p.tables e below (T.setTop (mkF m 25 #[.val (.int x)] [(.int x)])) _
  refine XS.bipush X.here hx rfl (hb hby d1_25) ?_
  show Steps p.tables e below (T.setTop (mkF m 27 #[.val (.int x)] [(.int (95 : Int32)), (.int x)])) _
  by_cases hc0 : x = (95 : Int32)
  · rw [if_pos hc0] at hv
    refine XS.icmpYes X.here hx rfl (pc0 := 27) (pc' := 191) rfl (hb hby d1_27) rfl (teq hc0).1 (by decide) (by decide) ?_
    exact b1_191 X hx hZ hw hby hown hret x w hv hr
  · rw [if_neg hc0] at hv
    refine XS.icmpNo X.here hx rfl (hb hby d1_27) rfl (feq hc0).1 ?_
    exact b1_30 X hx hZ hw hby hown hret x w hv hr
def v1_18 (x : Int32) : Int32 := (if (122 : Int32) < x then v1_24 x else v1_191 x)
set_option maxRecDepth 65536 in
set_option maxHeartbeats 40000000 in
theorem b1_18 {p : Program} {l : Launch} {e : Env} {R : Room} {s : State} {m : MethodId} {args : Array Value} {below : List Frame} {meth : Method} {c : Code} {T : State} {locs : List Loc} {cells slots : Nat} {Z : State} {a0 : Array Value} (X : Stand p l e R s m args below meth c T locs cells slots) (hx : p.tables.exec = Jvm.exec) (hZ : Z.Warmed39 s.vm) (hw : ∀ d ∈ tables_1, d.before a0 Z = true) (hby : c.code = prog_162_method_6_code) (hown : s.vm.findClass "com/example/libxdm/libxdm/model/XmlNames" = some m.cls) (hret : meth.sig.returnType = some .boolean) (x w : Int32) (hv : v1_18 x = w) {fs : List Frame} (hr : ∀ (f : JFrame) (acts : List Action), f.method = m → f.locked = none → f.entered = [] → (doReturn e (T.setTop f) acts (some (.int w))).1 = T.setFrames fs) : Steps p.tables e below (T.setTop (mkF m 18 #[.val (.int x)] [])) (T.setFrames fs) := by
  change (if (122 : Int32) < x then v1_24 x else v1_191 x) = w at hv
  show Steps p.tables e below (T.setTop (mkF m 18 #[.val (.int x)] [])) _
  refine XS.iloadN X.here hx rfl (hb hby d1_18) rfl ?_
  show Steps p.tables e below (T.setTop (mkF m 19 #[.val (.int x)] [(.int x)])) _
  refine XS.bipush X.here hx rfl (hb hby d1_19) ?_
  show Steps p.tables e below (T.setTop (mkF m 21 #[.val (.int x)] [(.int (122 : Int32)), (.int x)])) _
  by_cases hc0 : (122 : Int32) < x
  · rw [if_pos hc0] at hv
    refine XS.icmpNo X.here hx rfl (hb hby d1_21) rfl (tlt hc0).2.2.2 ?_
    exact b1_24 X hx hZ hw hby hown hret x w hv hr
  · rw [if_neg hc0] at hv
    refine XS.icmpYes X.here hx rfl (pc0 := 21) (pc' := 191) rfl (hb hby d1_21) rfl (flt hc0).2.2.2 (by decide) (by decide) ?_
    exact b1_191 X hx hZ hw hby hown hret x w hv hr
def v1_12 (x : Int32) : Int32 := (if x < (97 : Int32) then v1_24 x else v1_18 x)
set_option maxRecDepth 65536 in
set_option maxHeartbeats 40000000 in
theorem b1_12 {p : Program} {l : Launch} {e : Env} {R : Room} {s : State} {m : MethodId} {args : Array Value} {below : List Frame} {meth : Method} {c : Code} {T : State} {locs : List Loc} {cells slots : Nat} {Z : State} {a0 : Array Value} (X : Stand p l e R s m args below meth c T locs cells slots) (hx : p.tables.exec = Jvm.exec) (hZ : Z.Warmed39 s.vm) (hw : ∀ d ∈ tables_1, d.before a0 Z = true) (hby : c.code = prog_162_method_6_code) (hown : s.vm.findClass "com/example/libxdm/libxdm/model/XmlNames" = some m.cls) (hret : meth.sig.returnType = some .boolean) (x w : Int32) (hv : v1_12 x = w) {fs : List Frame} (hr : ∀ (f : JFrame) (acts : List Action), f.method = m → f.locked = none → f.entered = [] → (doReturn e (T.setTop f) acts (some (.int w))).1 = T.setFrames fs) : Steps p.tables e below (T.setTop (mkF m 12 #[.val (.int x)] [])) (T.setFrames fs) := by
  change (if x < (97 : Int32) then v1_24 x else v1_18 x) = w at hv
  show Steps p.tables e below (T.setTop (mkF m 12 #[.val (.int x)] [])) _
  refine XS.iloadN X.here hx rfl (hb hby d1_12) rfl ?_
  show Steps p.tables e below (T.setTop (mkF m 13 #[.val (.int x)] [(.int x)])) _
  refine XS.bipush X.here hx rfl (hb hby d1_13) ?_
  show Steps p.tables e below (T.setTop (mkF m 15 #[.val (.int x)] [(.int (97 : Int32)), (.int x)])) _
  by_cases hc0 : x < (97 : Int32)
  · rw [if_pos hc0] at hv
    refine XS.icmpYes X.here hx rfl (pc0 := 15) (pc' := 24) rfl (hb hby d1_15) rfl (tlt hc0).1 (by decide) (by decide) ?_
    exact b1_24 X hx hZ hw hby hown hret x w hv hr
  · rw [if_neg hc0] at hv
    refine XS.icmpNo X.here hx rfl (hb hby d1_15) rfl (flt hc0).1 ?_
    exact b1_18 X hx hZ hw hby hown hret x w hv hr
def v1_6 (x : Int32) : Int32 := (if (90 : Int32) < x then v1_12 x else v1_191 x)
set_option maxRecDepth 65536 in
set_option maxHeartbeats 40000000 in
theorem b1_6 {p : Program} {l : Launch} {e : Env} {R : Room} {s : State} {m : MethodId} {args : Array Value} {below : List Frame} {meth : Method} {c : Code} {T : State} {locs : List Loc} {cells slots : Nat} {Z : State} {a0 : Array Value} (X : Stand p l e R s m args below meth c T locs cells slots) (hx : p.tables.exec = Jvm.exec) (hZ : Z.Warmed39 s.vm) (hw : ∀ d ∈ tables_1, d.before a0 Z = true) (hby : c.code = prog_162_method_6_code) (hown : s.vm.findClass "com/example/libxdm/libxdm/model/XmlNames" = some m.cls) (hret : meth.sig.returnType = some .boolean) (x w : Int32) (hv : v1_6 x = w) {fs : List Frame} (hr : ∀ (f : JFrame) (acts : List Action), f.method = m → f.locked = none → f.entered = [] → (doReturn e (T.setTop f) acts (some (.int w))).1 = T.setFrames fs) : Steps p.tables e below (T.setTop (mkF m 6 #[.val (.int x)] [])) (T.setFrames fs) := by
  change (if (90 : Int32) < x then v1_12 x else v1_191 x) = w at hv
  show Steps p.tables e below (T.setTop (mkF m 6 #[.val (.int x)] [])) _
  refine XS.iloadN X.here hx rfl (hb hby d1_6) rfl ?_
  show Steps p.tables e below (T.setTop (mkF m 7 #[.val (.int x)] [(.int x)])) _
  refine XS.bipush X.here hx rfl (hb hby d1_7) ?_
  show Steps p.tables e below (T.setTop (mkF m 9 #[.val (.int x)] [(.int (90 : Int32)), (.int x)])) _
  by_cases hc0 : (90 : Int32) < x
  · rw [if_pos hc0] at hv
    refine XS.icmpNo X.here hx rfl (hb hby d1_9) rfl (tlt hc0).2.2.2 ?_
    exact b1_12 X hx hZ hw hby hown hret x w hv hr
  · rw [if_neg hc0] at hv
    refine XS.icmpYes X.here hx rfl (pc0 := 9) (pc' := 191) rfl (hb hby d1_9) rfl (flt hc0).2.2.2 (by decide) (by decide) ?_
    exact b1_191 X hx hZ hw hby hown hret x w hv hr
def v1_0 (x : Int32) : Int32 := (if x < (65 : Int32) then v1_12 x else v1_6 x)
set_option maxRecDepth 65536 in
set_option maxHeartbeats 40000000 in
theorem b1_0 {p : Program} {l : Launch} {e : Env} {R : Room} {s : State} {m : MethodId} {args : Array Value} {below : List Frame} {meth : Method} {c : Code} {T : State} {locs : List Loc} {cells slots : Nat} {Z : State} {a0 : Array Value} (X : Stand p l e R s m args below meth c T locs cells slots) (hx : p.tables.exec = Jvm.exec) (hZ : Z.Warmed39 s.vm) (hw : ∀ d ∈ tables_1, d.before a0 Z = true) (hby : c.code = prog_162_method_6_code) (hown : s.vm.findClass "com/example/libxdm/libxdm/model/XmlNames" = some m.cls) (hret : meth.sig.returnType = some .boolean) (x w : Int32) (hv : v1_0 x = w) {fs : List Frame} (hr : ∀ (f : JFrame) (acts : List Action), f.method = m → f.locked = none → f.entered = [] → (doReturn e (T.setTop f) acts (some (.int w))).1 = T.setFrames fs) : Steps p.tables e below (T.setTop (mkF m 0 #[.val (.int x)] [])) (T.setFrames fs) := by
  change (if x < (65 : Int32) then v1_12 x else v1_6 x) = w at hv
  show Steps p.tables e below (T.setTop (mkF m 0 #[.val (.int x)] [])) _
  refine XS.iloadN X.here hx rfl (hb hby d1_0) rfl ?_
  show Steps p.tables e below (T.setTop (mkF m 1 #[.val (.int x)] [(.int x)])) _
  refine XS.bipush X.here hx rfl (hb hby d1_1) ?_
  show Steps p.tables e below (T.setTop (mkF m 3 #[.val (.int x)] [(.int (65 : Int32)), (.int x)])) _
  by_cases hc0 : x < (65 : Int32)
  · rw [if_pos hc0] at hv
    refine XS.icmpYes X.here hx rfl (pc0 := 3) (pc' := 12) rfl (hb hby d1_3) rfl (tlt hc0).1 (by decide) (by decide) ?_
    exact b1_12 X hx hZ hw hby hown hret x w hv hr
  · rw [if_neg hc0] at hv
    refine XS.icmpNo X.here hx rfl (hb hby d1_3) rfl (flt hc0).1 ?_
    exact b1_6 X hx hZ hw hby hown hret x w hv hr
theorem pn_1 : plainName "com/example/libxdm/libxdm/model/XmlNames" = true := by first | (simp [plainName, overriddenIn]; done) | decide +kernel
theorem ef_1 (m : MethodId) (x0 : Int32) : entryFrame m #[(.int x0)] 1 = mkF m 0 #[.val (.int x0)] [] := by first | (simp [entryFrame, mkF, argsToLocals, Value.category]; done) | rfl
def Q1 (Z : State) (p1 : Int32) (h0 : Heap) (n0 : Nat) (v : Option Value) (h : Heap) (L : List Loc) : Prop := v = some (.int (v1_0 p1)) ∧ Fr n0 L ∧ h = h0
set_option maxRecDepth 65536 in
set_option maxHeartbeats 40000000 in
theorem rm1 (l : Launch) (Z : State) (a0 : Array Value) (hw : ∀ d ∈ tables_1, d.before a0 Z = true) (ws : List Jvm.Cond) (p1 : Int32) (h0 : Heap) (n0 : Nat) :
    MetFree l (⟨"com/example/libxdm/libxdm/model/XmlNames", "isNameStart", "(I)Z"⟩ : MethodName) (head1 (Jvm.Cond.code (⟨"com/example/libxdm/libxdm/model/XmlNames", "isNameStart", "(I)Z"⟩ : MethodName) prog_162_method_6_code 1 (some .boolean) :: ws) ({ frames := 0, cells := 0, slots := 0, locals := 0 } : Room)) (fun a U => a = #[(.int p1)] ∧ Z.Warmed39 U.vm ∧ U.heap = h0) (fun _ _ _ _ _ => True) (fun _ U o U' => ∃ v L, o = .returned v ∧ Q1 Z p1 h0 n0 v U'.heap L ∧ FrameEnd U o U' L ({ frames := 0, cells := 0, slots := 0, locals := 0 } : Room).cells ({ frames := 0, cells := 0, slots := 0, locals := 0 } : Room).slots) := by
  refine MetFree.of_bodySF (plainFor_of_name pn_1) hisR ?_
  intro p e s m args below meth c s₁ Bd hml0 hP hK
  obtain ⟨rfl, hZ, hh⟩ := hP
  have hx := Bd.exec
  have hby := Bd.bytes
  have hown : s.vm.findClass "com/example/libxdm/libxdm/model/XmlNames" = some m.cls := findClass_of_methodNamed Bd.named
  have X0 : Stand p l e ({ frames := 0, cells := 0, slots := 0, locals := 0 } : Room) s m #[(.int p1)] below meth c s₁ [] 0 0 := Stand.of_body Bd
  have e0 : s₁.heap = h0 := by rw [← hh, Bd.state]; rfl
  have N0 := Fr.nil n0
  have pre0 : ∀ t, Steps p.tables e below (s₁.setTop (mkF m 0 #[.val (.int p1)] [])) t → Steps p.tables e below (s₁.setTop (entryFrame m #[(.int p1)] 1)) t := fun t k => castTop (ef_1 m p1) k
  obtain ⟨fs, hr, hrun, hended, hW, hsame⟩ := X0.leave (v := some (.int (v1_0 p1))) (fun h => by rw [Bd.returns] at h; cases h)
  refine ⟨_, _, pre0 _ ?_, hrun, hended, _, _, rfl, ?_, ⟨_, rfl⟩, hW, hsame.mono (by decide) (by decide)⟩
  · exact b1_0 X0 hx hZ hw hby hown Bd.returns p1 _ rfl hr
  · show Q1 Z p1 h0 n0 _ s₁.heap _
    rw [e0]
    exact ⟨rfl, N0, rfl⟩
theorem r1_0 (x : Int32) : v1_0 x = (if (x < (65 : Int32)) ∨ ((90 : Int32) < x) then v1_12 x else v1_191 x) := by
  unfold v1_0 v1_6
  by_cases h1 : x < (65 : Int32) <;> by_cases h2 : (90 : Int32) < x <;> simp [h1, h2]
theorem r1_191 (x : Int32) : v1_191 x = (1 : Int32) := rfl
theorem r1_12 (x : Int32) : v1_12 x = (if (x < (97 : Int32)) ∨ ((122 : Int32) < x) then v1_24 x else v1_191 x) := by
  unfold v1_12 v1_18
  by_cases h1 : x < (97 : Int32) <;> by_cases h2 : (122 : Int32) < x <;> simp [h1, h2]
theorem r1_24 (x : Int32) : v1_24 x = (if x = (95 : Int32) then v1_191 x else v1_30 x) := rfl
theorem r1_30 (x : Int32) : v1_30 x = (if (x < (192 : Int32)) ∨ ((214 : Int32) < x) then v1_44 x else v1_191 x) := by
  unfold v1_30 v1_37
  by_cases h1 : x < (192 : Int32) <;> by_cases h2 : (214 : Int32) < x <;> simp [h1, h2]
theorem r1_44 (x : Int32) : v1_44 x = (if (x < (216 : Int32)) ∨ ((246 : Int32) < x) then v1_58 x else v1_191 x) := by
  unfold v1_44 v1_51
  by_cases h1 : x < (216 : Int32) <;> by_cases h2 : (246 : Int32) < x <;> simp [h1, h2]
theorem r1_58 (x : Int32) : v1_58 x = (if (x < (248 : Int32)) ∨ ((767 : Int32) < x) then v1_72 x else v1_191 x) := by
  unfold v1_58 v1_65
  by_cases h1 : x < (248 : Int32) <;> by_cases h2 : (767 : Int32) < x <;> simp [h1, h2]
theorem r1_72 (x : Int32) : v1_72 x = (if (x < (880 : Int32)) ∨ ((893 : Int32) < x) then v1_86 x else v1_191 x) := by
  unfold v1_72 v1_79
  by_cases h1 : x < (880 : Int32) <;> by_cases h2 : (893 : Int32) < x <;> simp [h1, h2]
theorem r1_86 (x : Int32) : v1_86 x = (if (x < (895 : Int32)) ∨ ((8191 : Int32) < x) then v1_100 x else v1_191 x) := by
  unfold v1_86 v1_93
  by_cases h1 : x < (895 : Int32) <;> by_cases h2 : (8191 : Int32) < x <;> simp [h1, h2]
theorem r1_100 (x : Int32) : v1_100 x = (if (x < (8204 : Int32)) ∨ ((8205 : Int32) < x) then v1_114 x else v1_191 x) := by
  unfold v1_100 v1_107
  by_cases h1 : x < (8204 : Int32) <;> by_cases h2 : (8205 : Int32) < x <;> simp [h1, h2]
theorem r1_114 (x : Int32) : v1_114 x = (if (x < (8304 : Int32)) ∨ ((8591 : Int32) < x) then v1_128 x else v1_191 x) := by
  unfold v1_114 v1_121
  by_cases h1 : x < (8304 : Int32) <;> by_cases h2 : (8591 : Int32) < x <;> simp [h1, h2]
theorem r1_128 (x : Int32) : v1_128 x = (if (x < (11264 : Int32)) ∨ ((12271 : Int32) < x) then v1_142 x else v1_191 x) := by
  unfold v1_128 v1_135
  by_cases h1 : x < (11264 : Int32) <;> by_cases h2 : (12271 : Int32) < x <;> simp [h1, h2]
theorem r1_142 (x : Int32) : v1_142 x = (if (x < (12289 : Int32)) ∨ ((55295 : Int32) < x) then v1_155 x else v1_191 x) := by
  unfold v1_142 v1_149
  by_cases h1 : x < (12289 : Int32) <;> by_cases h2 : (55295 : Int32) < x <;> simp [h1, h2]
theorem r1_155 (x : Int32) : v1_155 x = (if (x < (63744 : Int32)) ∨ ((64975 : Int32) < x) then v1_167 x else v1_191 x) := by
  unfold v1_155 v1_161
  by_cases h1 : x < (63744 : Int32) <;> by_cases h2 : (64975 : Int32) < x <;> simp [h1, h2]
theorem r1_167 (x : Int32) : v1_167 x = (if (x < (65008 : Int32)) ∨ ((65533 : Int32) < x) then v1_179 x else v1_191 x) := by
  unfold v1_167 v1_173
  by_cases h1 : x < (65008 : Int32) <;> by_cases h2 : (65533 : Int32) < x <;> simp [h1, h2]
theorem r1_179 (x : Int32) : v1_179 x = (if (x < (65536 : Int32)) ∨ ((983039 : Int32) < x) then v1_195 x else v1_191 x) := by
  unfold v1_179 v1_185
  by_cases h1 : x < (65536 : Int32) <;> by_cases h2 : (983039 : Int32) < x <;> simp [h1, h2]
theorem r1_195 (x : Int32) : v1_195 x = (0 : Int32) := rfl
theorem d2_0 : decode method_3_code 0 = .ok (.iload_n 0, 1) := by decide +kernel
theorem d2_1 : decode method_3_code 1 = .ok (.bipush 65, 2) := by decide +kernel
theorem d2_3 : decode method_3_code 3 = .ok (.if_icmp .lt 9, 3) := by decide +kernel
theorem d2_6 : decode method_3_code 6 = .ok (.iload_n 0, 1) := by decide +kernel
theorem d2_7 : decode method_3_code 7 = .ok (.ldc 15, 2) := by decide +kernel
theorem d2_9 : decode method_3_code 9 = .ok (.if_icmp .le 5, 3) := by decide +kernel
theorem d2_12 : decode method_3_code 12 = .ok (.iconst 0, 1) := by decide +kernel
theorem d2_13 : decode method_3_code 13 = .ok (.ireturn, 1) := by decide +kernel
theorem d2_14 : decode method_3_code 14 = .ok (.iload_n 0, 1) := by decide +kernel
theorem d2_15 : decode method_3_code 15 = .ok (.sipush 255, 3) := by decide +kernel
theorem d2_18 : decode method_3_code 18 = .ok (.if_icmp .gt 60, 3) := by decide +kernel
theorem d2_21 : decode method_3_code 21 = .ok (.iload_n 0, 1) := by decide +kernel
theorem d2_22 : decode method_3_code 22 = .ok (.bipush 91, 2) := by decide +kernel
theorem d2_24 : decode method_3_code 24 = .ok (.if_icmp .lt 11, 3) := by decide +kernel
theorem d2_27 : decode method_3_code 27 = .ok (.iload_n 0, 1) := by decide +kernel
theorem d2_28 : decode method_3_code 28 = .ok (.bipush 94, 2) := by decide +kernel
theorem d2_30 : decode method_3_code 30 = .ok (.if_icmp .gt 5, 3) := by decide +kernel
theorem d2_33 : decode method_3_code 33 = .ok (.iconst 0, 1) := by decide +kernel
theorem d2_34 : decode method_3_code 34 = .ok (.ireturn, 1) := by decide +kernel
theorem d2_35 : decode method_3_code 35 = .ok (.iload_n 0, 1) := by decide +kernel
theorem d2_36 : decode method_3_code 36 = .ok (.bipush 96, 2) := by decide +kernel
theorem d2_38 : decode method_3_code 38 = .ok (.if_icmp .ne 5, 3) := by decide +kernel
theorem d2_41 : decode method_3_code 41 = .ok (.iconst 0, 1) := by decide +kernel
theorem d2_42 : decode method_3_code 42 = .ok (.ireturn, 1) := by decide +kernel
theorem d2_43 : decode method_3_code 43 = .ok (.iload_n 0, 1) := by decide +kernel
theorem d2_44 : decode method_3_code 44 = .ok (.bipush 123, 2) := by decide +kernel
theorem d2_46 : decode method_3_code 46 = .ok (.if_icmp .lt 12, 3) := by decide +kernel
theorem d2_49 : decode method_3_code 49 = .ok (.iload_n 0, 1) := by decide +kernel
theorem d2_50 : decode method_3_code 50 = .ok (.sipush 191, 3) := by decide +kernel
theorem d2_53 : decode method_3_code 53 = .ok (.if_icmp .gt 5, 3) := by decide +kernel
theorem d2_56 : decode method_3_code 56 = .ok (.iconst 0, 1) := by decide +kernel
theorem d2_57 : decode method_3_code 57 = .ok (.ireturn, 1) := by decide +kernel
theorem d2_58 : decode method_3_code 58 = .ok (.iload_n 0, 1) := by decide +kernel
theorem d2_59 : decode method_3_code 59 = .ok (.sipush 215, 3) := by decide +kernel
theorem d2_62 : decode method_3_code 62 = .ok (.if_icmp .eq 14, 3) := by decide +kernel
theorem d2_65 : decode method_3_code 65 = .ok (.iload_n 0, 1) := by decide +kernel
theorem d2_66 : decode method_3_code 66 = .ok (.sipush 247, 3) := by decide +kernel
theorem d2_69 : decode method_3_code 69 = .ok (.if_icmp .eq 7, 3) := by decide +kernel
theorem d2_72 : decode method_3_code 72 = .ok (.iconst 1, 1) := by decide +kernel
theorem d2_73 : decode method_3_code 73 = .ok (.goto 4, 3) := by decide +kernel
theorem d2_76 : decode method_3_code 76 = .ok (.iconst 0, 1) := by decide +kernel
theorem d2_77 : decode method_3_code 77 = .ok (.ireturn, 1) := by decide +kernel
theorem d2_78 : decode method_3_code 78 = .ok (.iload_n 0, 1) := by decide +kernel
theorem d2_79 : decode method_3_code 79 = .ok (.sipush 768, 3) := by decide +kernel
theorem d2_82 : decode method_3_code 82 = .ok (.if_icmp .lt 12, 3) := by decide +kernel
theorem d2_85 : decode method_3_code 85 = .ok (.iload_n 0, 1) := by decide +kernel
theorem d2_86 : decode method_3_code 86 = .ok (.sipush 879, 3) := by decide +kernel
theorem d2_89 : decode method_3_code 89 = .ok (.if_icmp .gt 5, 3) := by decide +kernel
theorem d2_92 : decode method_3_code 92 = .ok (.iconst 0, 1) := by decide +kernel
theorem d2_93 : decode method_3_code 93 = .ok (.ireturn, 1) := by decide +kernel
theorem d2_94 : decode method_3_code 94 = .ok (.iload_n 0, 1) := by decide +kernel
theorem d2_95 : decode method_3_code 95 = .ok (.sipush 894, 3) := by decide +kernel
theorem d2_98 : decode method_3_code 98 = .ok (.if_icmp .ne 5, 3) := by decide +kernel
theorem d2_101 : decode method_3_code 101 = .ok (.iconst 0, 1) := by decide +kernel
theorem d2_102 : decode method_3_code 102 = .ok (.ireturn, 1) := by decide +kernel
theorem d2_103 : decode method_3_code 103 = .ok (.iload_n 0, 1) := by decide +kernel
theorem d2_104 : decode method_3_code 104 = .ok (.sipush 8192, 3) := by decide +kernel
theorem d2_107 : decode method_3_code 107 = .ok (.if_icmp .lt 30, 3) := by decide +kernel
theorem d2_110 : decode method_3_code 110 = .ok (.iload_n 0, 1) := by decide +kernel
theorem d2_111 : decode method_3_code 111 = .ok (.sipush 8303, 3) := by decide +kernel
theorem d2_114 : decode method_3_code 114 = .ok (.if_icmp .gt 23, 3) := by decide +kernel
theorem d2_117 : decode method_3_code 117 = .ok (.iload_n 0, 1) := by decide +kernel
theorem d2_118 : decode method_3_code 118 = .ok (.sipush 8204, 3) := by decide +kernel
theorem d2_121 : decode method_3_code 121 = .ok (.if_icmp .eq 10, 3) := by decide +kernel
theorem d2_124 : decode method_3_code 124 = .ok (.iload_n 0, 1) := by decide +kernel
theorem d2_125 : decode method_3_code 125 = .ok (.sipush 8205, 3) := by decide +kernel
theorem d2_128 : decode method_3_code 128 = .ok (.if_icmp .ne 7, 3) := by decide +kernel
theorem d2_131 : decode method_3_code 131 = .ok (.iconst 1, 1) := by decide +kernel
theorem d2_132 : decode method_3_code 132 = .ok (.goto 4, 3) := by decide +kernel
theorem d2_135 : decode method_3_code 135 = .ok (.iconst 0, 1) := by decide +kernel
theorem d2_136 : decode method_3_code 136 = .ok (.ireturn, 1) := by decide +kernel
theorem d2_137 : decode method_3_code 137 = .ok (.iload_n 0, 1) := by decide +kernel
theorem d2_138 : decode method_3_code 138 = .ok (.sipush 8592, 3) := by decide +kernel
theorem d2_141 : decode method_3_code 141 = .ok (.if_icmp .lt 12, 3) := by decide +kernel
theorem d2_144 : decode method_3_code 144 = .ok (.iload_n 0, 1) := by decide +kernel
theorem d2_145 : decode method_3_code 145 = .ok (.sipush 11263, 3) := by decide +kernel
theorem d2_148 : decode method_3_code 148 = .ok (.if_icmp .gt 5, 3) := by decide +kernel
theorem d2_151 : decode method_3_code 151 = .ok (.iconst 0, 1) := by decide +kernel
theorem d2_152 : decode method_3_code 152 = .ok (.ireturn, 1) := by decide +kernel
theorem d2_153 : decode method_3_code 153 = .ok (.iload_n 0, 1) := by decide +kernel
theorem d2_154 : decode method_3_code 154 = .ok (.sipush 12272, 3) := by decide +kernel
theorem d2_157 : decode method_3_code 157 = .ok (.if_icmp .lt 12, 3) := by decide +kernel
theorem d2_160 : decode method_3_code 160 = .ok (.iload_n 0, 1) := by decide +kernel
theorem d2_161 : decode method_3_code 161 = .ok (.sipush 12288, 3) := by decide +kernel
theorem d2_164 : decode method_3_code 164 = .ok (.if_icmp .gt 5, 3) := by decide +kernel
theorem d2_167 : decode method_3_code 167 = .ok (.iconst 0, 1) := by decide +kernel
theorem d2_168 : decode method_3_code 168 = .ok (.ireturn, 1) := by decide +kernel
theorem d2_169 : decode method_3_code 169 = .ok (.iload_n 0, 1) := by decide +kernel
theorem d2_170 : decode method_3_code 170 = .ok (.ldc 30, 2) := by decide +kernel
theorem d2_172 : decode method_3_code 172 = .ok (.if_icmp .lt 11, 3) := by decide +kernel
theorem d2_175 : decode method_3_code 175 = .ok (.iload_n 0, 1) := by decide +kernel
theorem d2_176 : decode method_3_code 176 = .ok (.ldc 31, 2) := by decide +kernel
theorem d2_178 : decode method_3_code 178 = .ok (.if_icmp .gt 5, 3) := by decide +kernel
theorem d2_181 : decode method_3_code 181 = .ok (.iconst 0, 1) := by decide +kernel
theorem d2_182 : decode method_3_code 182 = .ok (.ireturn, 1) := by decide +kernel
theorem d2_183 : decode method_3_code 183 = .ok (.iload_n 0, 1) := by decide +kernel
theorem d2_184 : decode method_3_code 184 = .ok (.ldc 32, 2) := by decide +kernel
theorem d2_186 : decode method_3_code 186 = .ok (.if_icmp .lt 11, 3) := by decide +kernel
theorem d2_189 : decode method_3_code 189 = .ok (.iload_n 0, 1) := by decide +kernel
theorem d2_190 : decode method_3_code 190 = .ok (.ldc 33, 2) := by decide +kernel
theorem d2_192 : decode method_3_code 192 = .ok (.if_icmp .gt 5, 3) := by decide +kernel
theorem d2_195 : decode method_3_code 195 = .ok (.iconst 0, 1) := by decide +kernel
theorem d2_196 : decode method_3_code 196 = .ok (.ireturn, 1) := by decide +kernel
theorem d2_197 : decode method_3_code 197 = .ok (.iload_n 0, 1) := by decide +kernel
theorem d2_198 : decode method_3_code 198 = .ok (.ldc 34, 2) := by decide +kernel
theorem d2_200 : decode method_3_code 200 = .ok (.if_icmp .eq 13, 3) := by decide +kernel
theorem d2_203 : decode method_3_code 203 = .ok (.iload_n 0, 1) := by decide +kernel
theorem d2_204 : decode method_3_code 204 = .ok (.ldc 7, 2) := by decide +kernel
theorem d2_206 : decode method_3_code 206 = .ok (.if_icmp .eq 7, 3) := by decide +kernel
theorem d2_209 : decode method_3_code 209 = .ok (.iconst 1, 1) := by decide +kernel
theorem d2_210 : decode method_3_code 210 = .ok (.goto 4, 3) := by decide +kernel
theorem d2_213 : decode method_3_code 213 = .ok (.iconst 0, 1) := by decide +kernel
theorem d2_214 : decode method_3_code 214 = .ok (.ireturn, 1) := by decide +kernel
def v2_213 (x : Int32) : Int32 := (0 : Int32)
set_option maxRecDepth 65536 in
set_option maxHeartbeats 40000000 in
theorem b2_213 {p : Program} {l : Launch} {e : Env} {R : Room} {s : State} {m : MethodId} {args : Array Value} {below : List Frame} {meth : Method} {c : Code} {T : State} {locs : List Loc} {cells slots : Nat} {Z : State} {a0 : Array Value} (X : Stand p l e R s m args below meth c T locs cells slots) (hx : p.tables.exec = Jvm.exec) (hZ : Z.Warmed39 s.vm) (hw : ∀ d ∈ tables_1, d.before a0 Z = true) (hby : c.code = method_3_code) (hown : s.vm.findClass "com/example/libxdm/libxdm/model/XmlNamesIsNameStartPinLaw" = some m.cls) (hret : meth.sig.returnType = some .boolean) (x w : Int32) (hv : v2_213 x = w) {fs : List Frame} (hr : ∀ (f : JFrame) (acts : List Action), f.method = m → f.locked = none → f.entered = [] → (doReturn e (T.setTop f) acts (some (.int w))).1 = T.setFrames fs) : Steps p.tables e below (T.setTop (mkF m 213 #[.val (.int x)] [])) (T.setFrames fs) := by
  change (0 : Int32) = w at hv
  show Steps p.tables e below (T.setTop (mkF m 213 #[.val (.int x)] [])) _
  refine XS.iconst X.here hx rfl (hb hby d2_213) ?_
  show Steps p.tables e below (T.setTop (mkF m 214 #[.val (.int x)] [(.int (0 : Int32))])) _
  subst hv
  exact retN X hx (t := .boolean) hret (by simp) (hb hby d2_214) hr
def v2_209 (x : Int32) : Int32 := (1 : Int32)
set_option maxRecDepth 65536 in
set_option maxHeartbeats 40000000 in
theorem b2_209 {p : Program} {l : Launch} {e : Env} {R : Room} {s : State} {m : MethodId} {args : Array Value} {below : List Frame} {meth : Method} {c : Code} {T : State} {locs : List Loc} {cells slots : Nat} {Z : State} {a0 : Array Value} (X : Stand p l e R s m args below meth c T locs cells slots) (hx : p.tables.exec = Jvm.exec) (hZ : Z.Warmed39 s.vm) (hw : ∀ d ∈ tables_1, d.before a0 Z = true) (hby : c.code = method_3_code) (hown : s.vm.findClass "com/example/libxdm/libxdm/model/XmlNamesIsNameStartPinLaw" = some m.cls) (hret : meth.sig.returnType = some .boolean) (x w : Int32) (hv : v2_209 x = w) {fs : List Frame} (hr : ∀ (f : JFrame) (acts : List Action), f.method = m → f.locked = none → f.entered = [] → (doReturn e (T.setTop f) acts (some (.int w))).1 = T.setFrames fs) : Steps p.tables e below (T.setTop (mkF m 209 #[.val (.int x)] [])) (T.setFrames fs) := by
  change (1 : Int32) = w at hv
  show Steps p.tables e below (T.setTop (mkF m 209 #[.val (.int x)] [])) _
  refine XS.iconst X.here hx rfl (hb hby d2_209) ?_
  show Steps p.tables e below (T.setTop (mkF m 210 #[.val (.int x)] [(.int (1 : Int32))])) _
  refine XS.goto X.here hx rfl (pc0 := 210) (pc' := 214) rfl (hb hby d2_210) (by decide) (by decide) ?_
  show Steps p.tables e below (T.setTop (mkF m 214 #[.val (.int x)] [(.int (1 : Int32))])) _
  subst hv
  exact retN X hx (t := .boolean) hret (by simp) (hb hby d2_214) hr
def v2_203 (x : Int32) : Int32 := (if x = (65535 : Int32) then v2_213 x else v2_209 x)
set_option maxRecDepth 65536 in
set_option maxHeartbeats 40000000 in
theorem b2_203 {p : Program} {l : Launch} {e : Env} {R : Room} {s : State} {m : MethodId} {args : Array Value} {below : List Frame} {meth : Method} {c : Code} {T : State} {locs : List Loc} {cells slots : Nat} {Z : State} {a0 : Array Value} (X : Stand p l e R s m args below meth c T locs cells slots) (hx : p.tables.exec = Jvm.exec) (hZ : Z.Warmed39 s.vm) (hw : ∀ d ∈ tables_1, d.before a0 Z = true) (hby : c.code = method_3_code) (hown : s.vm.findClass "com/example/libxdm/libxdm/model/XmlNamesIsNameStartPinLaw" = some m.cls) (hret : meth.sig.returnType = some .boolean) (x w : Int32) (hv : v2_203 x = w) {fs : List Frame} (hr : ∀ (f : JFrame) (acts : List Action), f.method = m → f.locked = none → f.entered = [] → (doReturn e (T.setTop f) acts (some (.int w))).1 = T.setFrames fs) : Steps p.tables e below (T.setTop (mkF m 203 #[.val (.int x)] [])) (T.setFrames fs) := by
  change (if x = (65535 : Int32) then v2_213 x else v2_209 x) = w at hv
  show Steps p.tables e below (T.setTop (mkF m 203 #[.val (.int x)] [])) _
  refine XS.iloadN X.here hx rfl (hb hby d2_203) rfl ?_
  show Steps p.tables e below (T.setTop (mkF m 204 #[.val (.int x)] [(.int x)])) _
  refine X.ldcI hx hown (v := (65535 : Int32)) (mvT hZ (hw _ (List.mem_of_getElem? (i := 22) rfl))) rfl (hb hby d2_204) ?_
  show Steps p.tables e below (T.setTop (mkF m 206 #[.val (.int x)] [(.int (65535 : Int32)), (.int x)])) _
  by_cases hc0 : x = (65535 : Int32)
  · rw [if_pos hc0] at hv
    refine XS.icmpYes X.here hx rfl (pc0 := 206) (pc' := 213) rfl (hb hby d2_206) rfl (teq hc0).1 (by decide) (by decide) ?_
    exact b2_213 X hx hZ hw hby hown hret x w hv hr
  · rw [if_neg hc0] at hv
    refine XS.icmpNo X.here hx rfl (hb hby d2_206) rfl (feq hc0).1 ?_
    exact b2_209 X hx hZ hw hby hown hret x w hv hr
def v2_197 (x : Int32) : Int32 := (if x = (65534 : Int32) then v2_213 x else v2_203 x)
set_option maxRecDepth 65536 in
set_option maxHeartbeats 40000000 in
theorem b2_197 {p : Program} {l : Launch} {e : Env} {R : Room} {s : State} {m : MethodId} {args : Array Value} {below : List Frame} {meth : Method} {c : Code} {T : State} {locs : List Loc} {cells slots : Nat} {Z : State} {a0 : Array Value} (X : Stand p l e R s m args below meth c T locs cells slots) (hx : p.tables.exec = Jvm.exec) (hZ : Z.Warmed39 s.vm) (hw : ∀ d ∈ tables_1, d.before a0 Z = true) (hby : c.code = method_3_code) (hown : s.vm.findClass "com/example/libxdm/libxdm/model/XmlNamesIsNameStartPinLaw" = some m.cls) (hret : meth.sig.returnType = some .boolean) (x w : Int32) (hv : v2_197 x = w) {fs : List Frame} (hr : ∀ (f : JFrame) (acts : List Action), f.method = m → f.locked = none → f.entered = [] → (doReturn e (T.setTop f) acts (some (.int w))).1 = T.setFrames fs) : Steps p.tables e below (T.setTop (mkF m 197 #[.val (.int x)] [])) (T.setFrames fs) := by
  change (if x = (65534 : Int32) then v2_213 x else v2_203 x) = w at hv
  show Steps p.tables e below (T.setTop (mkF m 197 #[.val (.int x)] [])) _
  refine XS.iloadN X.here hx rfl (hb hby d2_197) rfl ?_
  show Steps p.tables e below (T.setTop (mkF m 198 #[.val (.int x)] [(.int x)])) _
  refine X.ldcI hx hown (v := (65534 : Int32)) (mvT hZ (hw _ (List.mem_of_getElem? (i := 25) rfl))) rfl (hb hby d2_198) ?_
  show Steps p.tables e below (T.setTop (mkF m 200 #[.val (.int x)] [(.int (65534 : Int32)), (.int x)])) _
  by_cases hc0 : x = (65534 : Int32)
  · rw [if_pos hc0] at hv
    refine XS.icmpYes X.here hx rfl (pc0 := 200) (pc' := 213) rfl (hb hby d2_200) rfl (teq hc0).1 (by decide) (by decide) ?_
    exact b2_213 X hx hZ hw hby hown hret x w hv hr
  · rw [if_neg hc0] at hv
    refine XS.icmpNo X.here hx rfl (hb hby d2_200) rfl (feq hc0).1 ?_
    exact b2_203 X hx hZ hw hby hown hret x w hv hr
def v2_195 (x : Int32) : Int32 := (0 : Int32)
set_option maxRecDepth 65536 in
set_option maxHeartbeats 40000000 in
theorem b2_195 {p : Program} {l : Launch} {e : Env} {R : Room} {s : State} {m : MethodId} {args : Array Value} {below : List Frame} {meth : Method} {c : Code} {T : State} {locs : List Loc} {cells slots : Nat} {Z : State} {a0 : Array Value} (X : Stand p l e R s m args below meth c T locs cells slots) (hx : p.tables.exec = Jvm.exec) (hZ : Z.Warmed39 s.vm) (hw : ∀ d ∈ tables_1, d.before a0 Z = true) (hby : c.code = method_3_code) (hown : s.vm.findClass "com/example/libxdm/libxdm/model/XmlNamesIsNameStartPinLaw" = some m.cls) (hret : meth.sig.returnType = some .boolean) (x w : Int32) (hv : v2_195 x = w) {fs : List Frame} (hr : ∀ (f : JFrame) (acts : List Action), f.method = m → f.locked = none → f.entered = [] → (doReturn e (T.setTop f) acts (some (.int w))).1 = T.setFrames fs) : Steps p.tables e below (T.setTop (mkF m 195 #[.val (.int x)] [])) (T.setFrames fs) := by
  change (0 : Int32) = w at hv
  show Steps p.tables e below (T.setTop (mkF m 195 #[.val (.int x)] [])) _
  refine XS.iconst X.here hx rfl (hb hby d2_195) ?_
  show Steps p.tables e below (T.setTop (mkF m 196 #[.val (.int x)] [(.int (0 : Int32))])) _
  subst hv
  exact retN X hx (t := .boolean) hret (by simp) (hb hby d2_196) hr
def v2_189 (x : Int32) : Int32 := (if (65007 : Int32) < x then v2_197 x else v2_195 x)
set_option maxRecDepth 65536 in
set_option maxHeartbeats 40000000 in
theorem b2_189 {p : Program} {l : Launch} {e : Env} {R : Room} {s : State} {m : MethodId} {args : Array Value} {below : List Frame} {meth : Method} {c : Code} {T : State} {locs : List Loc} {cells slots : Nat} {Z : State} {a0 : Array Value} (X : Stand p l e R s m args below meth c T locs cells slots) (hx : p.tables.exec = Jvm.exec) (hZ : Z.Warmed39 s.vm) (hw : ∀ d ∈ tables_1, d.before a0 Z = true) (hby : c.code = method_3_code) (hown : s.vm.findClass "com/example/libxdm/libxdm/model/XmlNamesIsNameStartPinLaw" = some m.cls) (hret : meth.sig.returnType = some .boolean) (x w : Int32) (hv : v2_189 x = w) {fs : List Frame} (hr : ∀ (f : JFrame) (acts : List Action), f.method = m → f.locked = none → f.entered = [] → (doReturn e (T.setTop f) acts (some (.int w))).1 = T.setFrames fs) : Steps p.tables e below (T.setTop (mkF m 189 #[.val (.int x)] [])) (T.setFrames fs) := by
  change (if (65007 : Int32) < x then v2_197 x else v2_195 x) = w at hv
  show Steps p.tables e below (T.setTop (mkF m 189 #[.val (.int x)] [])) _
  refine XS.iloadN X.here hx rfl (hb hby d2_189) rfl ?_
  show Steps p.tables e below (T.setTop (mkF m 190 #[.val (.int x)] [(.int x)])) _
  refine X.ldcI hx hown (v := (65007 : Int32)) (mvT hZ (hw _ (List.mem_of_getElem? (i := 30) rfl))) rfl (hb hby d2_190) ?_
  show Steps p.tables e below (T.setTop (mkF m 192 #[.val (.int x)] [(.int (65007 : Int32)), (.int x)])) _
  by_cases hc0 : (65007 : Int32) < x
  · rw [if_pos hc0] at hv
    refine XS.icmpYes X.here hx rfl (pc0 := 192) (pc' := 197) rfl (hb hby d2_192) rfl (tlt hc0).2.2.1 (by decide) (by decide) ?_
    exact b2_197 X hx hZ hw hby hown hret x w hv hr
  · rw [if_neg hc0] at hv
    refine XS.icmpNo X.here hx rfl (hb hby d2_192) rfl (flt hc0).2.2.1 ?_
    exact b2_195 X hx hZ hw hby hown hret x w hv hr
def v2_183 (x : Int32) : Int32 := (if x < (64976 : Int32) then v2_197 x else v2_189 x)
set_option maxRecDepth 65536 in
set_option maxHeartbeats 40000000 in
theorem b2_183 {p : Program} {l : Launch} {e : Env} {R : Room} {s : State} {m : MethodId} {args : Array Value} {below : List Frame} {meth : Method} {c : Code} {T : State} {locs : List Loc} {cells slots : Nat} {Z : State} {a0 : Array Value} (X : Stand p l e R s m args below meth c T locs cells slots) (hx : p.tables.exec = Jvm.exec) (hZ : Z.Warmed39 s.vm) (hw : ∀ d ∈ tables_1, d.before a0 Z = true) (hby : c.code = method_3_code) (hown : s.vm.findClass "com/example/libxdm/libxdm/model/XmlNamesIsNameStartPinLaw" = some m.cls) (hret : meth.sig.returnType = some .boolean) (x w : Int32) (hv : v2_183 x = w) {fs : List Frame} (hr : ∀ (f : JFrame) (acts : List Action), f.method = m → f.locked = none → f.entered = [] → (doReturn e (T.setTop f) acts (some (.int w))).1 = T.setFrames fs) : Steps p.tables e below (T.setTop (mkF m 183 #[.val (.int x)] [])) (T.setFrames fs) := by
  change (if x < (64976 : Int32) then v2_197 x else v2_189 x) = w at hv
  show Steps p.tables e below (T.setTop (mkF m 183 #[.val (.int x)] [])) _
  refine XS.iloadN X.here hx rfl (hb hby d2_183) rfl ?_
  show Steps p.tables e below (T.setTop (mkF m 184 #[.val (.int x)] [(.int x)])) _
  refine X.ldcI hx hown (v := (64976 : Int32)) (mvT hZ (hw _ (List.mem_of_getElem? (i := 24) rfl))) rfl (hb hby d2_184) ?_
  show Steps p.tables e below (T.setTop (mkF m 186 #[.val (.int x)] [(.int (64976 : Int32)), (.int x)])) _
  by_cases hc0 : x < (64976 : Int32)
  · rw [if_pos hc0] at hv
    refine XS.icmpYes X.here hx rfl (pc0 := 186) (pc' := 197) rfl (hb hby d2_186) rfl (tlt hc0).1 (by decide) (by decide) ?_
    exact b2_197 X hx hZ hw hby hown hret x w hv hr
  · rw [if_neg hc0] at hv
    refine XS.icmpNo X.here hx rfl (hb hby d2_186) rfl (flt hc0).1 ?_
    exact b2_189 X hx hZ hw hby hown hret x w hv hr
def v2_181 (x : Int32) : Int32 := (0 : Int32)
set_option maxRecDepth 65536 in
set_option maxHeartbeats 40000000 in
theorem b2_181 {p : Program} {l : Launch} {e : Env} {R : Room} {s : State} {m : MethodId} {args : Array Value} {below : List Frame} {meth : Method} {c : Code} {T : State} {locs : List Loc} {cells slots : Nat} {Z : State} {a0 : Array Value} (X : Stand p l e R s m args below meth c T locs cells slots) (hx : p.tables.exec = Jvm.exec) (hZ : Z.Warmed39 s.vm) (hw : ∀ d ∈ tables_1, d.before a0 Z = true) (hby : c.code = method_3_code) (hown : s.vm.findClass "com/example/libxdm/libxdm/model/XmlNamesIsNameStartPinLaw" = some m.cls) (hret : meth.sig.returnType = some .boolean) (x w : Int32) (hv : v2_181 x = w) {fs : List Frame} (hr : ∀ (f : JFrame) (acts : List Action), f.method = m → f.locked = none → f.entered = [] → (doReturn e (T.setTop f) acts (some (.int w))).1 = T.setFrames fs) : Steps p.tables e below (T.setTop (mkF m 181 #[.val (.int x)] [])) (T.setFrames fs) := by
  change (0 : Int32) = w at hv
  show Steps p.tables e below (T.setTop (mkF m 181 #[.val (.int x)] [])) _
  refine XS.iconst X.here hx rfl (hb hby d2_181) ?_
  show Steps p.tables e below (T.setTop (mkF m 182 #[.val (.int x)] [(.int (0 : Int32))])) _
  subst hv
  exact retN X hx (t := .boolean) hret (by simp) (hb hby d2_182) hr
def v2_175 (x : Int32) : Int32 := (if (63743 : Int32) < x then v2_183 x else v2_181 x)
set_option maxRecDepth 65536 in
set_option maxHeartbeats 40000000 in
theorem b2_175 {p : Program} {l : Launch} {e : Env} {R : Room} {s : State} {m : MethodId} {args : Array Value} {below : List Frame} {meth : Method} {c : Code} {T : State} {locs : List Loc} {cells slots : Nat} {Z : State} {a0 : Array Value} (X : Stand p l e R s m args below meth c T locs cells slots) (hx : p.tables.exec = Jvm.exec) (hZ : Z.Warmed39 s.vm) (hw : ∀ d ∈ tables_1, d.before a0 Z = true) (hby : c.code = method_3_code) (hown : s.vm.findClass "com/example/libxdm/libxdm/model/XmlNamesIsNameStartPinLaw" = some m.cls) (hret : meth.sig.returnType = some .boolean) (x w : Int32) (hv : v2_175 x = w) {fs : List Frame} (hr : ∀ (f : JFrame) (acts : List Action), f.method = m → f.locked = none → f.entered = [] → (doReturn e (T.setTop f) acts (some (.int w))).1 = T.setFrames fs) : Steps p.tables e below (T.setTop (mkF m 175 #[.val (.int x)] [])) (T.setFrames fs) := by
  change (if (63743 : Int32) < x then v2_183 x else v2_181 x) = w at hv
  show Steps p.tables e below (T.setTop (mkF m 175 #[.val (.int x)] [])) _
  refine XS.iloadN X.here hx rfl (hb hby d2_175) rfl ?_
  show Steps p.tables e below (T.setTop (mkF m 176 #[.val (.int x)] [(.int x)])) _
  refine X.ldcI hx hown (v := (63743 : Int32)) (mvT hZ (hw _ (List.mem_of_getElem? (i := 29) rfl))) rfl (hb hby d2_176) ?_
  show Steps p.tables e below (T.setTop (mkF m 178 #[.val (.int x)] [(.int (63743 : Int32)), (.int x)])) _
  by_cases hc0 : (63743 : Int32) < x
  · rw [if_pos hc0] at hv
    refine XS.icmpYes X.here hx rfl (pc0 := 178) (pc' := 183) rfl (hb hby d2_178) rfl (tlt hc0).2.2.1 (by decide) (by decide) ?_
    exact b2_183 X hx hZ hw hby hown hret x w hv hr
  · rw [if_neg hc0] at hv
    refine XS.icmpNo X.here hx rfl (hb hby d2_178) rfl (flt hc0).2.2.1 ?_
    exact b2_181 X hx hZ hw hby hown hret x w hv hr
def v2_169 (x : Int32) : Int32 := (if x < (55296 : Int32) then v2_183 x else v2_175 x)
set_option maxRecDepth 65536 in
set_option maxHeartbeats 40000000 in
theorem b2_169 {p : Program} {l : Launch} {e : Env} {R : Room} {s : State} {m : MethodId} {args : Array Value} {below : List Frame} {meth : Method} {c : Code} {T : State} {locs : List Loc} {cells slots : Nat} {Z : State} {a0 : Array Value} (X : Stand p l e R s m args below meth c T locs cells slots) (hx : p.tables.exec = Jvm.exec) (hZ : Z.Warmed39 s.vm) (hw : ∀ d ∈ tables_1, d.before a0 Z = true) (hby : c.code = method_3_code) (hown : s.vm.findClass "com/example/libxdm/libxdm/model/XmlNamesIsNameStartPinLaw" = some m.cls) (hret : meth.sig.returnType = some .boolean) (x w : Int32) (hv : v2_169 x = w) {fs : List Frame} (hr : ∀ (f : JFrame) (acts : List Action), f.method = m → f.locked = none → f.entered = [] → (doReturn e (T.setTop f) acts (some (.int w))).1 = T.setFrames fs) : Steps p.tables e below (T.setTop (mkF m 169 #[.val (.int x)] [])) (T.setFrames fs) := by
  change (if x < (55296 : Int32) then v2_183 x else v2_175 x) = w at hv
  show Steps p.tables e below (T.setTop (mkF m 169 #[.val (.int x)] [])) _
  refine XS.iloadN X.here hx rfl (hb hby d2_169) rfl ?_
  show Steps p.tables e below (T.setTop (mkF m 170 #[.val (.int x)] [(.int x)])) _
  refine X.ldcI hx hown (v := (55296 : Int32)) (mvT hZ (hw _ (List.mem_of_getElem? (i := 23) rfl))) rfl (hb hby d2_170) ?_
  show Steps p.tables e below (T.setTop (mkF m 172 #[.val (.int x)] [(.int (55296 : Int32)), (.int x)])) _
  by_cases hc0 : x < (55296 : Int32)
  · rw [if_pos hc0] at hv
    refine XS.icmpYes X.here hx rfl (pc0 := 172) (pc' := 183) rfl (hb hby d2_172) rfl (tlt hc0).1 (by decide) (by decide) ?_
    exact b2_183 X hx hZ hw hby hown hret x w hv hr
  · rw [if_neg hc0] at hv
    refine XS.icmpNo X.here hx rfl (hb hby d2_172) rfl (flt hc0).1 ?_
    exact b2_175 X hx hZ hw hby hown hret x w hv hr
def v2_167 (x : Int32) : Int32 := (0 : Int32)
set_option maxRecDepth 65536 in
set_option maxHeartbeats 40000000 in
theorem b2_167 {p : Program} {l : Launch} {e : Env} {R : Room} {s : State} {m : MethodId} {args : Array Value} {below : List Frame} {meth : Method} {c : Code} {T : State} {locs : List Loc} {cells slots : Nat} {Z : State} {a0 : Array Value} (X : Stand p l e R s m args below meth c T locs cells slots) (hx : p.tables.exec = Jvm.exec) (hZ : Z.Warmed39 s.vm) (hw : ∀ d ∈ tables_1, d.before a0 Z = true) (hby : c.code = method_3_code) (hown : s.vm.findClass "com/example/libxdm/libxdm/model/XmlNamesIsNameStartPinLaw" = some m.cls) (hret : meth.sig.returnType = some .boolean) (x w : Int32) (hv : v2_167 x = w) {fs : List Frame} (hr : ∀ (f : JFrame) (acts : List Action), f.method = m → f.locked = none → f.entered = [] → (doReturn e (T.setTop f) acts (some (.int w))).1 = T.setFrames fs) : Steps p.tables e below (T.setTop (mkF m 167 #[.val (.int x)] [])) (T.setFrames fs) := by
  change (0 : Int32) = w at hv
  show Steps p.tables e below (T.setTop (mkF m 167 #[.val (.int x)] [])) _
  refine XS.iconst X.here hx rfl (hb hby d2_167) ?_
  show Steps p.tables e below (T.setTop (mkF m 168 #[.val (.int x)] [(.int (0 : Int32))])) _
  subst hv
  exact retN X hx (t := .boolean) hret (by simp) (hb hby d2_168) hr
def v2_160 (x : Int32) : Int32 := (if (12288 : Int32) < x then v2_169 x else v2_167 x)
set_option maxRecDepth 65536 in
set_option maxHeartbeats 40000000 in
theorem b2_160 {p : Program} {l : Launch} {e : Env} {R : Room} {s : State} {m : MethodId} {args : Array Value} {below : List Frame} {meth : Method} {c : Code} {T : State} {locs : List Loc} {cells slots : Nat} {Z : State} {a0 : Array Value} (X : Stand p l e R s m args below meth c T locs cells slots) (hx : p.tables.exec = Jvm.exec) (hZ : Z.Warmed39 s.vm) (hw : ∀ d ∈ tables_1, d.before a0 Z = true) (hby : c.code = method_3_code) (hown : s.vm.findClass "com/example/libxdm/libxdm/model/XmlNamesIsNameStartPinLaw" = some m.cls) (hret : meth.sig.returnType = some .boolean) (x w : Int32) (hv : v2_160 x = w) {fs : List Frame} (hr : ∀ (f : JFrame) (acts : List Action), f.method = m → f.locked = none → f.entered = [] → (doReturn e (T.setTop f) acts (some (.int w))).1 = T.setFrames fs) : Steps p.tables e below (T.setTop (mkF m 160 #[.val (.int x)] [])) (T.setFrames fs) := by
  change (if (12288 : Int32) < x then v2_169 x else v2_167 x) = w at hv
  show Steps p.tables e below (T.setTop (mkF m 160 #[.val (.int x)] [])) _
  refine XS.iloadN X.here hx rfl (hb hby d2_160) rfl ?_
  show Steps p.tables e below (T.setTop (mkF m 161 #[.val (.int x)] [(.int x)])) _
  refine XS.sipush X.here hx rfl (hb hby d2_161) ?_
  show Steps p.tables e below (T.setTop (mkF m 164 #[.val (.int x)] [(.int (12288 : Int32)), (.int x)])) _
  by_cases hc0 : (12288 : Int32) < x
  · rw [if_pos hc0] at hv
    refine XS.icmpYes X.here hx rfl (pc0 := 164) (pc' := 169) rfl (hb hby d2_164) rfl (tlt hc0).2.2.1 (by decide) (by decide) ?_
    exact b2_169 X hx hZ hw hby hown hret x w hv hr
  · rw [if_neg hc0] at hv
    refine XS.icmpNo X.here hx rfl (hb hby d2_164) rfl (flt hc0).2.2.1 ?_
    exact b2_167 X hx hZ hw hby hown hret x w hv hr
def v2_153 (x : Int32) : Int32 := (if x < (12272 : Int32) then v2_169 x else v2_160 x)
set_option maxRecDepth 65536 in
set_option maxHeartbeats 40000000 in
theorem b2_153 {p : Program} {l : Launch} {e : Env} {R : Room} {s : State} {m : MethodId} {args : Array Value} {below : List Frame} {meth : Method} {c : Code} {T : State} {locs : List Loc} {cells slots : Nat} {Z : State} {a0 : Array Value} (X : Stand p l e R s m args below meth c T locs cells slots) (hx : p.tables.exec = Jvm.exec) (hZ : Z.Warmed39 s.vm) (hw : ∀ d ∈ tables_1, d.before a0 Z = true) (hby : c.code = method_3_code) (hown : s.vm.findClass "com/example/libxdm/libxdm/model/XmlNamesIsNameStartPinLaw" = some m.cls) (hret : meth.sig.returnType = some .boolean) (x w : Int32) (hv : v2_153 x = w) {fs : List Frame} (hr : ∀ (f : JFrame) (acts : List Action), f.method = m → f.locked = none → f.entered = [] → (doReturn e (T.setTop f) acts (some (.int w))).1 = T.setFrames fs) : Steps p.tables e below (T.setTop (mkF m 153 #[.val (.int x)] [])) (T.setFrames fs) := by
  change (if x < (12272 : Int32) then v2_169 x else v2_160 x) = w at hv
  show Steps p.tables e below (T.setTop (mkF m 153 #[.val (.int x)] [])) _
  refine XS.iloadN X.here hx rfl (hb hby d2_153) rfl ?_
  show Steps p.tables e below (T.setTop (mkF m 154 #[.val (.int x)] [(.int x)])) _
  refine XS.sipush X.here hx rfl (hb hby d2_154) ?_
  show Steps p.tables e below (T.setTop (mkF m 157 #[.val (.int x)] [(.int (12272 : Int32)), (.int x)])) _
  by_cases hc0 : x < (12272 : Int32)
  · rw [if_pos hc0] at hv
    refine XS.icmpYes X.here hx rfl (pc0 := 157) (pc' := 169) rfl (hb hby d2_157) rfl (tlt hc0).1 (by decide) (by decide) ?_
    exact b2_169 X hx hZ hw hby hown hret x w hv hr
  · rw [if_neg hc0] at hv
    refine XS.icmpNo X.here hx rfl (hb hby d2_157) rfl (flt hc0).1 ?_
    exact b2_160 X hx hZ hw hby hown hret x w hv hr
def v2_151 (x : Int32) : Int32 := (0 : Int32)
set_option maxRecDepth 65536 in
set_option maxHeartbeats 40000000 in
theorem b2_151 {p : Program} {l : Launch} {e : Env} {R : Room} {s : State} {m : MethodId} {args : Array Value} {below : List Frame} {meth : Method} {c : Code} {T : State} {locs : List Loc} {cells slots : Nat} {Z : State} {a0 : Array Value} (X : Stand p l e R s m args below meth c T locs cells slots) (hx : p.tables.exec = Jvm.exec) (hZ : Z.Warmed39 s.vm) (hw : ∀ d ∈ tables_1, d.before a0 Z = true) (hby : c.code = method_3_code) (hown : s.vm.findClass "com/example/libxdm/libxdm/model/XmlNamesIsNameStartPinLaw" = some m.cls) (hret : meth.sig.returnType = some .boolean) (x w : Int32) (hv : v2_151 x = w) {fs : List Frame} (hr : ∀ (f : JFrame) (acts : List Action), f.method = m → f.locked = none → f.entered = [] → (doReturn e (T.setTop f) acts (some (.int w))).1 = T.setFrames fs) : Steps p.tables e below (T.setTop (mkF m 151 #[.val (.int x)] [])) (T.setFrames fs) := by
  change (0 : Int32) = w at hv
  show Steps p.tables e below (T.setTop (mkF m 151 #[.val (.int x)] [])) _
  refine XS.iconst X.here hx rfl (hb hby d2_151) ?_
  show Steps p.tables e below (T.setTop (mkF m 152 #[.val (.int x)] [(.int (0 : Int32))])) _
  subst hv
  exact retN X hx (t := .boolean) hret (by simp) (hb hby d2_152) hr
def v2_144 (x : Int32) : Int32 := (if (11263 : Int32) < x then v2_153 x else v2_151 x)
set_option maxRecDepth 65536 in
set_option maxHeartbeats 40000000 in
theorem b2_144 {p : Program} {l : Launch} {e : Env} {R : Room} {s : State} {m : MethodId} {args : Array Value} {below : List Frame} {meth : Method} {c : Code} {T : State} {locs : List Loc} {cells slots : Nat} {Z : State} {a0 : Array Value} (X : Stand p l e R s m args below meth c T locs cells slots) (hx : p.tables.exec = Jvm.exec) (hZ : Z.Warmed39 s.vm) (hw : ∀ d ∈ tables_1, d.before a0 Z = true) (hby : c.code = method_3_code) (hown : s.vm.findClass "com/example/libxdm/libxdm/model/XmlNamesIsNameStartPinLaw" = some m.cls) (hret : meth.sig.returnType = some .boolean) (x w : Int32) (hv : v2_144 x = w) {fs : List Frame} (hr : ∀ (f : JFrame) (acts : List Action), f.method = m → f.locked = none → f.entered = [] → (doReturn e (T.setTop f) acts (some (.int w))).1 = T.setFrames fs) : Steps p.tables e below (T.setTop (mkF m 144 #[.val (.int x)] [])) (T.setFrames fs) := by
  change (if (11263 : Int32) < x then v2_153 x else v2_151 x) = w at hv
  show Steps p.tables e below (T.setTop (mkF m 144 #[.val (.int x)] [])) _
  refine XS.iloadN X.here hx rfl (hb hby d2_144) rfl ?_
  show Steps p.tables e below (T.setTop (mkF m 145 #[.val (.int x)] [(.int x)])) _
  refine XS.sipush X.here hx rfl (hb hby d2_145) ?_
  show Steps p.tables e below (T.setTop (mkF m 148 #[.val (.int x)] [(.int (11263 : Int32)), (.int x)])) _
  by_cases hc0 : (11263 : Int32) < x
  · rw [if_pos hc0] at hv
    refine XS.icmpYes X.here hx rfl (pc0 := 148) (pc' := 153) rfl (hb hby d2_148) rfl (tlt hc0).2.2.1 (by decide) (by decide) ?_
    exact b2_153 X hx hZ hw hby hown hret x w hv hr
  · rw [if_neg hc0] at hv
    refine XS.icmpNo X.here hx rfl (hb hby d2_148) rfl (flt hc0).2.2.1 ?_
    exact b2_151 X hx hZ hw hby hown hret x w hv hr
def v2_137 (x : Int32) : Int32 := (if x < (8592 : Int32) then v2_153 x else v2_144 x)
set_option maxRecDepth 65536 in
set_option maxHeartbeats 40000000 in
theorem b2_137 {p : Program} {l : Launch} {e : Env} {R : Room} {s : State} {m : MethodId} {args : Array Value} {below : List Frame} {meth : Method} {c : Code} {T : State} {locs : List Loc} {cells slots : Nat} {Z : State} {a0 : Array Value} (X : Stand p l e R s m args below meth c T locs cells slots) (hx : p.tables.exec = Jvm.exec) (hZ : Z.Warmed39 s.vm) (hw : ∀ d ∈ tables_1, d.before a0 Z = true) (hby : c.code = method_3_code) (hown : s.vm.findClass "com/example/libxdm/libxdm/model/XmlNamesIsNameStartPinLaw" = some m.cls) (hret : meth.sig.returnType = some .boolean) (x w : Int32) (hv : v2_137 x = w) {fs : List Frame} (hr : ∀ (f : JFrame) (acts : List Action), f.method = m → f.locked = none → f.entered = [] → (doReturn e (T.setTop f) acts (some (.int w))).1 = T.setFrames fs) : Steps p.tables e below (T.setTop (mkF m 137 #[.val (.int x)] [])) (T.setFrames fs) := by
  change (if x < (8592 : Int32) then v2_153 x else v2_144 x) = w at hv
  show Steps p.tables e below (T.setTop (mkF m 137 #[.val (.int x)] [])) _
  refine XS.iloadN X.here hx rfl (hb hby d2_137) rfl ?_
  show Steps p.tables e below (T.setTop (mkF m 138 #[.val (.int x)] [(.int x)])) _
  refine XS.sipush X.here hx rfl (hb hby d2_138) ?_
  show Steps p.tables e below (T.setTop (mkF m 141 #[.val (.int x)] [(.int (8592 : Int32)), (.int x)])) _
  by_cases hc0 : x < (8592 : Int32)
  · rw [if_pos hc0] at hv
    refine XS.icmpYes X.here hx rfl (pc0 := 141) (pc' := 153) rfl (hb hby d2_141) rfl (tlt hc0).1 (by decide) (by decide) ?_
    exact b2_153 X hx hZ hw hby hown hret x w hv hr
  · rw [if_neg hc0] at hv
    refine XS.icmpNo X.here hx rfl (hb hby d2_141) rfl (flt hc0).1 ?_
    exact b2_144 X hx hZ hw hby hown hret x w hv hr
def v2_135 (x : Int32) : Int32 := (0 : Int32)
set_option maxRecDepth 65536 in
set_option maxHeartbeats 40000000 in
theorem b2_135 {p : Program} {l : Launch} {e : Env} {R : Room} {s : State} {m : MethodId} {args : Array Value} {below : List Frame} {meth : Method} {c : Code} {T : State} {locs : List Loc} {cells slots : Nat} {Z : State} {a0 : Array Value} (X : Stand p l e R s m args below meth c T locs cells slots) (hx : p.tables.exec = Jvm.exec) (hZ : Z.Warmed39 s.vm) (hw : ∀ d ∈ tables_1, d.before a0 Z = true) (hby : c.code = method_3_code) (hown : s.vm.findClass "com/example/libxdm/libxdm/model/XmlNamesIsNameStartPinLaw" = some m.cls) (hret : meth.sig.returnType = some .boolean) (x w : Int32) (hv : v2_135 x = w) {fs : List Frame} (hr : ∀ (f : JFrame) (acts : List Action), f.method = m → f.locked = none → f.entered = [] → (doReturn e (T.setTop f) acts (some (.int w))).1 = T.setFrames fs) : Steps p.tables e below (T.setTop (mkF m 135 #[.val (.int x)] [])) (T.setFrames fs) := by
  change (0 : Int32) = w at hv
  show Steps p.tables e below (T.setTop (mkF m 135 #[.val (.int x)] [])) _
  refine XS.iconst X.here hx rfl (hb hby d2_135) ?_
  show Steps p.tables e below (T.setTop (mkF m 136 #[.val (.int x)] [(.int (0 : Int32))])) _
  subst hv
  exact retN X hx (t := .boolean) hret (by simp) (hb hby d2_136) hr
def v2_131 (x : Int32) : Int32 := (1 : Int32)
set_option maxRecDepth 65536 in
set_option maxHeartbeats 40000000 in
theorem b2_131 {p : Program} {l : Launch} {e : Env} {R : Room} {s : State} {m : MethodId} {args : Array Value} {below : List Frame} {meth : Method} {c : Code} {T : State} {locs : List Loc} {cells slots : Nat} {Z : State} {a0 : Array Value} (X : Stand p l e R s m args below meth c T locs cells slots) (hx : p.tables.exec = Jvm.exec) (hZ : Z.Warmed39 s.vm) (hw : ∀ d ∈ tables_1, d.before a0 Z = true) (hby : c.code = method_3_code) (hown : s.vm.findClass "com/example/libxdm/libxdm/model/XmlNamesIsNameStartPinLaw" = some m.cls) (hret : meth.sig.returnType = some .boolean) (x w : Int32) (hv : v2_131 x = w) {fs : List Frame} (hr : ∀ (f : JFrame) (acts : List Action), f.method = m → f.locked = none → f.entered = [] → (doReturn e (T.setTop f) acts (some (.int w))).1 = T.setFrames fs) : Steps p.tables e below (T.setTop (mkF m 131 #[.val (.int x)] [])) (T.setFrames fs) := by
  change (1 : Int32) = w at hv
  show Steps p.tables e below (T.setTop (mkF m 131 #[.val (.int x)] [])) _
  refine XS.iconst X.here hx rfl (hb hby d2_131) ?_
  show Steps p.tables e below (T.setTop (mkF m 132 #[.val (.int x)] [(.int (1 : Int32))])) _
  refine XS.goto X.here hx rfl (pc0 := 132) (pc' := 136) rfl (hb hby d2_132) (by decide) (by decide) ?_
  show Steps p.tables e below (T.setTop (mkF m 136 #[.val (.int x)] [(.int (1 : Int32))])) _
  subst hv
  exact retN X hx (t := .boolean) hret (by simp) (hb hby d2_136) hr
def v2_124 (x : Int32) : Int32 := (if x = (8205 : Int32) then v2_131 x else v2_135 x)
set_option maxRecDepth 65536 in
set_option maxHeartbeats 40000000 in
theorem b2_124 {p : Program} {l : Launch} {e : Env} {R : Room} {s : State} {m : MethodId} {args : Array Value} {below : List Frame} {meth : Method} {c : Code} {T : State} {locs : List Loc} {cells slots : Nat} {Z : State} {a0 : Array Value} (X : Stand p l e R s m args below meth c T locs cells slots) (hx : p.tables.exec = Jvm.exec) (hZ : Z.Warmed39 s.vm) (hw : ∀ d ∈ tables_1, d.before a0 Z = true) (hby : c.code = method_3_code) (hown : s.vm.findClass "com/example/libxdm/libxdm/model/XmlNamesIsNameStartPinLaw" = some m.cls) (hret : meth.sig.returnType = some .boolean) (x w : Int32) (hv : v2_124 x = w) {fs : List Frame} (hr : ∀ (f : JFrame) (acts : List Action), f.method = m → f.locked = none → f.entered = [] → (doReturn e (T.setTop f) acts (some (.int w))).1 = T.setFrames fs) : Steps p.tables e below (T.setTop (mkF m 124 #[.val (.int x)] [])) (T.setFrames fs) := by
  change (if x = (8205 : Int32) then v2_131 x else v2_135 x) = w at hv
  show Steps p.tables e below (T.setTop (mkF m 124 #[.val (.int x)] [])) _
  refine XS.iloadN X.here hx rfl (hb hby d2_124) rfl ?_
  show Steps p.tables e below (T.setTop (mkF m 125 #[.val (.int x)] [(.int x)])) _
  refine XS.sipush X.here hx rfl (hb hby d2_125) ?_
  show Steps p.tables e below (T.setTop (mkF m 128 #[.val (.int x)] [(.int (8205 : Int32)), (.int x)])) _
  by_cases hc0 : x = (8205 : Int32)
  · rw [if_pos hc0] at hv
    refine XS.icmpNo X.here hx rfl (hb hby d2_128) rfl (teq hc0).2 ?_
    exact b2_131 X hx hZ hw hby hown hret x w hv hr
  · rw [if_neg hc0] at hv
    refine XS.icmpYes X.here hx rfl (pc0 := 128) (pc' := 135) rfl (hb hby d2_128) rfl (feq hc0).2 (by decide) (by decide) ?_
    exact b2_135 X hx hZ hw hby hown hret x w hv hr
def v2_117 (x : Int32) : Int32 := (if x = (8204 : Int32) then v2_131 x else v2_124 x)
set_option maxRecDepth 65536 in
set_option maxHeartbeats 40000000 in
theorem b2_117 {p : Program} {l : Launch} {e : Env} {R : Room} {s : State} {m : MethodId} {args : Array Value} {below : List Frame} {meth : Method} {c : Code} {T : State} {locs : List Loc} {cells slots : Nat} {Z : State} {a0 : Array Value} (X : Stand p l e R s m args below meth c T locs cells slots) (hx : p.tables.exec = Jvm.exec) (hZ : Z.Warmed39 s.vm) (hw : ∀ d ∈ tables_1, d.before a0 Z = true) (hby : c.code = method_3_code) (hown : s.vm.findClass "com/example/libxdm/libxdm/model/XmlNamesIsNameStartPinLaw" = some m.cls) (hret : meth.sig.returnType = some .boolean) (x w : Int32) (hv : v2_117 x = w) {fs : List Frame} (hr : ∀ (f : JFrame) (acts : List Action), f.method = m → f.locked = none → f.entered = [] → (doReturn e (T.setTop f) acts (some (.int w))).1 = T.setFrames fs) : Steps p.tables e below (T.setTop (mkF m 117 #[.val (.int x)] [])) (T.setFrames fs) := by
  change (if x = (8204 : Int32) then v2_131 x else v2_124 x) = w at hv
  show Steps p.tables e below (T.setTop (mkF m 117 #[.val (.int x)] [])) _
  refine XS.iloadN X.here hx rfl (hb hby d2_117) rfl ?_
  show Steps p.tables e below (T.setTop (mkF m 118 #[.val (.int x)] [(.int x)])) _
  refine XS.sipush X.here hx rfl (hb hby d2_118) ?_
  show Steps p.tables e below (T.setTop (mkF m 121 #[.val (.int x)] [(.int (8204 : Int32)), (.int x)])) _
  by_cases hc0 : x = (8204 : Int32)
  · rw [if_pos hc0] at hv
    refine XS.icmpYes X.here hx rfl (pc0 := 121) (pc' := 131) rfl (hb hby d2_121) rfl (teq hc0).1 (by decide) (by decide) ?_
    exact b2_131 X hx hZ hw hby hown hret x w hv hr
  · rw [if_neg hc0] at hv
    refine XS.icmpNo X.here hx rfl (hb hby d2_121) rfl (feq hc0).1 ?_
    exact b2_124 X hx hZ hw hby hown hret x w hv hr
def v2_110 (x : Int32) : Int32 := (if (8303 : Int32) < x then v2_137 x else v2_117 x)
set_option maxRecDepth 65536 in
set_option maxHeartbeats 40000000 in
theorem b2_110 {p : Program} {l : Launch} {e : Env} {R : Room} {s : State} {m : MethodId} {args : Array Value} {below : List Frame} {meth : Method} {c : Code} {T : State} {locs : List Loc} {cells slots : Nat} {Z : State} {a0 : Array Value} (X : Stand p l e R s m args below meth c T locs cells slots) (hx : p.tables.exec = Jvm.exec) (hZ : Z.Warmed39 s.vm) (hw : ∀ d ∈ tables_1, d.before a0 Z = true) (hby : c.code = method_3_code) (hown : s.vm.findClass "com/example/libxdm/libxdm/model/XmlNamesIsNameStartPinLaw" = some m.cls) (hret : meth.sig.returnType = some .boolean) (x w : Int32) (hv : v2_110 x = w) {fs : List Frame} (hr : ∀ (f : JFrame) (acts : List Action), f.method = m → f.locked = none → f.entered = [] → (doReturn e (T.setTop f) acts (some (.int w))).1 = T.setFrames fs) : Steps p.tables e below (T.setTop (mkF m 110 #[.val (.int x)] [])) (T.setFrames fs) := by
  change (if (8303 : Int32) < x then v2_137 x else v2_117 x) = w at hv
  show Steps p.tables e below (T.setTop (mkF m 110 #[.val (.int x)] [])) _
  refine XS.iloadN X.here hx rfl (hb hby d2_110) rfl ?_
  show Steps p.tables e below (T.setTop (mkF m 111 #[.val (.int x)] [(.int x)])) _
  refine XS.sipush X.here hx rfl (hb hby d2_111) ?_
  show Steps p.tables e below (T.setTop (mkF m 114 #[.val (.int x)] [(.int (8303 : Int32)), (.int x)])) _
  by_cases hc0 : (8303 : Int32) < x
  · rw [if_pos hc0] at hv
    refine XS.icmpYes X.here hx rfl (pc0 := 114) (pc' := 137) rfl (hb hby d2_114) rfl (tlt hc0).2.2.1 (by decide) (by decide) ?_
    exact b2_137 X hx hZ hw hby hown hret x w hv hr
  · rw [if_neg hc0] at hv
    refine XS.icmpNo X.here hx rfl (hb hby d2_114) rfl (flt hc0).2.2.1 ?_
    exact b2_117 X hx hZ hw hby hown hret x w hv hr
def v2_103 (x : Int32) : Int32 := (if x < (8192 : Int32) then v2_137 x else v2_110 x)
set_option maxRecDepth 65536 in
set_option maxHeartbeats 40000000 in
theorem b2_103 {p : Program} {l : Launch} {e : Env} {R : Room} {s : State} {m : MethodId} {args : Array Value} {below : List Frame} {meth : Method} {c : Code} {T : State} {locs : List Loc} {cells slots : Nat} {Z : State} {a0 : Array Value} (X : Stand p l e R s m args below meth c T locs cells slots) (hx : p.tables.exec = Jvm.exec) (hZ : Z.Warmed39 s.vm) (hw : ∀ d ∈ tables_1, d.before a0 Z = true) (hby : c.code = method_3_code) (hown : s.vm.findClass "com/example/libxdm/libxdm/model/XmlNamesIsNameStartPinLaw" = some m.cls) (hret : meth.sig.returnType = some .boolean) (x w : Int32) (hv : v2_103 x = w) {fs : List Frame} (hr : ∀ (f : JFrame) (acts : List Action), f.method = m → f.locked = none → f.entered = [] → (doReturn e (T.setTop f) acts (some (.int w))).1 = T.setFrames fs) : Steps p.tables e below (T.setTop (mkF m 103 #[.val (.int x)] [])) (T.setFrames fs) := by
  change (if x < (8192 : Int32) then v2_137 x else v2_110 x) = w at hv
  show Steps p.tables e below (T.setTop (mkF m 103 #[.val (.int x)] [])) _
  refine XS.iloadN X.here hx rfl (hb hby d2_103) rfl ?_
  show Steps p.tables e below (T.setTop (mkF m 104 #[.val (.int x)] [(.int x)])) _
  refine XS.sipush X.here hx rfl (hb hby d2_104) ?_
  show Steps p.tables e below (T.setTop (mkF m 107 #[.val (.int x)] [(.int (8192 : Int32)), (.int x)])) _
  by_cases hc0 : x < (8192 : Int32)
  · rw [if_pos hc0] at hv
    refine XS.icmpYes X.here hx rfl (pc0 := 107) (pc' := 137) rfl (hb hby d2_107) rfl (tlt hc0).1 (by decide) (by decide) ?_
    exact b2_137 X hx hZ hw hby hown hret x w hv hr
  · rw [if_neg hc0] at hv
    refine XS.icmpNo X.here hx rfl (hb hby d2_107) rfl (flt hc0).1 ?_
    exact b2_110 X hx hZ hw hby hown hret x w hv hr
def v2_101 (x : Int32) : Int32 := (0 : Int32)
set_option maxRecDepth 65536 in
set_option maxHeartbeats 40000000 in
theorem b2_101 {p : Program} {l : Launch} {e : Env} {R : Room} {s : State} {m : MethodId} {args : Array Value} {below : List Frame} {meth : Method} {c : Code} {T : State} {locs : List Loc} {cells slots : Nat} {Z : State} {a0 : Array Value} (X : Stand p l e R s m args below meth c T locs cells slots) (hx : p.tables.exec = Jvm.exec) (hZ : Z.Warmed39 s.vm) (hw : ∀ d ∈ tables_1, d.before a0 Z = true) (hby : c.code = method_3_code) (hown : s.vm.findClass "com/example/libxdm/libxdm/model/XmlNamesIsNameStartPinLaw" = some m.cls) (hret : meth.sig.returnType = some .boolean) (x w : Int32) (hv : v2_101 x = w) {fs : List Frame} (hr : ∀ (f : JFrame) (acts : List Action), f.method = m → f.locked = none → f.entered = [] → (doReturn e (T.setTop f) acts (some (.int w))).1 = T.setFrames fs) : Steps p.tables e below (T.setTop (mkF m 101 #[.val (.int x)] [])) (T.setFrames fs) := by
  change (0 : Int32) = w at hv
  show Steps p.tables e below (T.setTop (mkF m 101 #[.val (.int x)] [])) _
  refine XS.iconst X.here hx rfl (hb hby d2_101) ?_
  show Steps p.tables e below (T.setTop (mkF m 102 #[.val (.int x)] [(.int (0 : Int32))])) _
  subst hv
  exact retN X hx (t := .boolean) hret (by simp) (hb hby d2_102) hr
def v2_94 (x : Int32) : Int32 := (if x = (894 : Int32) then v2_101 x else v2_103 x)
set_option maxRecDepth 65536 in
set_option maxHeartbeats 40000000 in
theorem b2_94 {p : Program} {l : Launch} {e : Env} {R : Room} {s : State} {m : MethodId} {args : Array Value} {below : List Frame} {meth : Method} {c : Code} {T : State} {locs : List Loc} {cells slots : Nat} {Z : State} {a0 : Array Value} (X : Stand p l e R s m args below meth c T locs cells slots) (hx : p.tables.exec = Jvm.exec) (hZ : Z.Warmed39 s.vm) (hw : ∀ d ∈ tables_1, d.before a0 Z = true) (hby : c.code = method_3_code) (hown : s.vm.findClass "com/example/libxdm/libxdm/model/XmlNamesIsNameStartPinLaw" = some m.cls) (hret : meth.sig.returnType = some .boolean) (x w : Int32) (hv : v2_94 x = w) {fs : List Frame} (hr : ∀ (f : JFrame) (acts : List Action), f.method = m → f.locked = none → f.entered = [] → (doReturn e (T.setTop f) acts (some (.int w))).1 = T.setFrames fs) : Steps p.tables e below (T.setTop (mkF m 94 #[.val (.int x)] [])) (T.setFrames fs) := by
  change (if x = (894 : Int32) then v2_101 x else v2_103 x) = w at hv
  show Steps p.tables e below (T.setTop (mkF m 94 #[.val (.int x)] [])) _
  refine XS.iloadN X.here hx rfl (hb hby d2_94) rfl ?_
  show Steps p.tables e below (T.setTop (mkF m 95 #[.val (.int x)] [(.int x)])) _
  refine XS.sipush X.here hx rfl (hb hby d2_95) ?_
  show Steps p.tables e below (T.setTop (mkF m 98 #[.val (.int x)] [(.int (894 : Int32)), (.int x)])) _
  by_cases hc0 : x = (894 : Int32)
  · rw [if_pos hc0] at hv
    refine XS.icmpNo X.here hx rfl (hb hby d2_98) rfl (teq hc0).2 ?_
    exact b2_101 X hx hZ hw hby hown hret x w hv hr
  · rw [if_neg hc0] at hv
    refine XS.icmpYes X.here hx rfl (pc0 := 98) (pc' := 103) rfl (hb hby d2_98) rfl (feq hc0).2 (by decide) (by decide) ?_
    exact b2_103 X hx hZ hw hby hown hret x w hv hr
def v2_92 (x : Int32) : Int32 := (0 : Int32)
set_option maxRecDepth 65536 in
set_option maxHeartbeats 40000000 in
theorem b2_92 {p : Program} {l : Launch} {e : Env} {R : Room} {s : State} {m : MethodId} {args : Array Value} {below : List Frame} {meth : Method} {c : Code} {T : State} {locs : List Loc} {cells slots : Nat} {Z : State} {a0 : Array Value} (X : Stand p l e R s m args below meth c T locs cells slots) (hx : p.tables.exec = Jvm.exec) (hZ : Z.Warmed39 s.vm) (hw : ∀ d ∈ tables_1, d.before a0 Z = true) (hby : c.code = method_3_code) (hown : s.vm.findClass "com/example/libxdm/libxdm/model/XmlNamesIsNameStartPinLaw" = some m.cls) (hret : meth.sig.returnType = some .boolean) (x w : Int32) (hv : v2_92 x = w) {fs : List Frame} (hr : ∀ (f : JFrame) (acts : List Action), f.method = m → f.locked = none → f.entered = [] → (doReturn e (T.setTop f) acts (some (.int w))).1 = T.setFrames fs) : Steps p.tables e below (T.setTop (mkF m 92 #[.val (.int x)] [])) (T.setFrames fs) := by
  change (0 : Int32) = w at hv
  show Steps p.tables e below (T.setTop (mkF m 92 #[.val (.int x)] [])) _
  refine XS.iconst X.here hx rfl (hb hby d2_92) ?_
  show Steps p.tables e below (T.setTop (mkF m 93 #[.val (.int x)] [(.int (0 : Int32))])) _
  subst hv
  exact retN X hx (t := .boolean) hret (by simp) (hb hby d2_93) hr
def v2_85 (x : Int32) : Int32 := (if (879 : Int32) < x then v2_94 x else v2_92 x)
set_option maxRecDepth 65536 in
set_option maxHeartbeats 40000000 in
theorem b2_85 {p : Program} {l : Launch} {e : Env} {R : Room} {s : State} {m : MethodId} {args : Array Value} {below : List Frame} {meth : Method} {c : Code} {T : State} {locs : List Loc} {cells slots : Nat} {Z : State} {a0 : Array Value} (X : Stand p l e R s m args below meth c T locs cells slots) (hx : p.tables.exec = Jvm.exec) (hZ : Z.Warmed39 s.vm) (hw : ∀ d ∈ tables_1, d.before a0 Z = true) (hby : c.code = method_3_code) (hown : s.vm.findClass "com/example/libxdm/libxdm/model/XmlNamesIsNameStartPinLaw" = some m.cls) (hret : meth.sig.returnType = some .boolean) (x w : Int32) (hv : v2_85 x = w) {fs : List Frame} (hr : ∀ (f : JFrame) (acts : List Action), f.method = m → f.locked = none → f.entered = [] → (doReturn e (T.setTop f) acts (some (.int w))).1 = T.setFrames fs) : Steps p.tables e below (T.setTop (mkF m 85 #[.val (.int x)] [])) (T.setFrames fs) := by
  change (if (879 : Int32) < x then v2_94 x else v2_92 x) = w at hv
  show Steps p.tables e below (T.setTop (mkF m 85 #[.val (.int x)] [])) _
  refine XS.iloadN X.here hx rfl (hb hby d2_85) rfl ?_
  show Steps p.tables e below (T.setTop (mkF m 86 #[.val (.int x)] [(.int x)])) _
  refine XS.sipush X.here hx rfl (hb hby d2_86) ?_
  show Steps p.tables e below (T.setTop (mkF m 89 #[.val (.int x)] [(.int (879 : Int32)), (.int x)])) _
  by_cases hc0 : (879 : Int32) < x
  · rw [if_pos hc0] at hv
    refine XS.icmpYes X.here hx rfl (pc0 := 89) (pc' := 94) rfl (hb hby d2_89) rfl (tlt hc0).2.2.1 (by decide) (by decide) ?_
    exact b2_94 X hx hZ hw hby hown hret x w hv hr
  · rw [if_neg hc0] at hv
    refine XS.icmpNo X.here hx rfl (hb hby d2_89) rfl (flt hc0).2.2.1 ?_
    exact b2_92 X hx hZ hw hby hown hret x w hv hr
def v2_78 (x : Int32) : Int32 := (if x < (768 : Int32) then v2_94 x else v2_85 x)
set_option maxRecDepth 65536 in
set_option maxHeartbeats 40000000 in
theorem b2_78 {p : Program} {l : Launch} {e : Env} {R : Room} {s : State} {m : MethodId} {args : Array Value} {below : List Frame} {meth : Method} {c : Code} {T : State} {locs : List Loc} {cells slots : Nat} {Z : State} {a0 : Array Value} (X : Stand p l e R s m args below meth c T locs cells slots) (hx : p.tables.exec = Jvm.exec) (hZ : Z.Warmed39 s.vm) (hw : ∀ d ∈ tables_1, d.before a0 Z = true) (hby : c.code = method_3_code) (hown : s.vm.findClass "com/example/libxdm/libxdm/model/XmlNamesIsNameStartPinLaw" = some m.cls) (hret : meth.sig.returnType = some .boolean) (x w : Int32) (hv : v2_78 x = w) {fs : List Frame} (hr : ∀ (f : JFrame) (acts : List Action), f.method = m → f.locked = none → f.entered = [] → (doReturn e (T.setTop f) acts (some (.int w))).1 = T.setFrames fs) : Steps p.tables e below (T.setTop (mkF m 78 #[.val (.int x)] [])) (T.setFrames fs) := by
  change (if x < (768 : Int32) then v2_94 x else v2_85 x) = w at hv
  show Steps p.tables e below (T.setTop (mkF m 78 #[.val (.int x)] [])) _
  refine XS.iloadN X.here hx rfl (hb hby d2_78) rfl ?_
  show Steps p.tables e below (T.setTop (mkF m 79 #[.val (.int x)] [(.int x)])) _
  refine XS.sipush X.here hx rfl (hb hby d2_79) ?_
  show Steps p.tables e below (T.setTop (mkF m 82 #[.val (.int x)] [(.int (768 : Int32)), (.int x)])) _
  by_cases hc0 : x < (768 : Int32)
  · rw [if_pos hc0] at hv
    refine XS.icmpYes X.here hx rfl (pc0 := 82) (pc' := 94) rfl (hb hby d2_82) rfl (tlt hc0).1 (by decide) (by decide) ?_
    exact b2_94 X hx hZ hw hby hown hret x w hv hr
  · rw [if_neg hc0] at hv
    refine XS.icmpNo X.here hx rfl (hb hby d2_82) rfl (flt hc0).1 ?_
    exact b2_85 X hx hZ hw hby hown hret x w hv hr
def v2_76 (x : Int32) : Int32 := (0 : Int32)
set_option maxRecDepth 65536 in
set_option maxHeartbeats 40000000 in
theorem b2_76 {p : Program} {l : Launch} {e : Env} {R : Room} {s : State} {m : MethodId} {args : Array Value} {below : List Frame} {meth : Method} {c : Code} {T : State} {locs : List Loc} {cells slots : Nat} {Z : State} {a0 : Array Value} (X : Stand p l e R s m args below meth c T locs cells slots) (hx : p.tables.exec = Jvm.exec) (hZ : Z.Warmed39 s.vm) (hw : ∀ d ∈ tables_1, d.before a0 Z = true) (hby : c.code = method_3_code) (hown : s.vm.findClass "com/example/libxdm/libxdm/model/XmlNamesIsNameStartPinLaw" = some m.cls) (hret : meth.sig.returnType = some .boolean) (x w : Int32) (hv : v2_76 x = w) {fs : List Frame} (hr : ∀ (f : JFrame) (acts : List Action), f.method = m → f.locked = none → f.entered = [] → (doReturn e (T.setTop f) acts (some (.int w))).1 = T.setFrames fs) : Steps p.tables e below (T.setTop (mkF m 76 #[.val (.int x)] [])) (T.setFrames fs) := by
  change (0 : Int32) = w at hv
  show Steps p.tables e below (T.setTop (mkF m 76 #[.val (.int x)] [])) _
  refine XS.iconst X.here hx rfl (hb hby d2_76) ?_
  show Steps p.tables e below (T.setTop (mkF m 77 #[.val (.int x)] [(.int (0 : Int32))])) _
  subst hv
  exact retN X hx (t := .boolean) hret (by simp) (hb hby d2_77) hr
def v2_72 (x : Int32) : Int32 := (1 : Int32)
set_option maxRecDepth 65536 in
set_option maxHeartbeats 40000000 in
theorem b2_72 {p : Program} {l : Launch} {e : Env} {R : Room} {s : State} {m : MethodId} {args : Array Value} {below : List Frame} {meth : Method} {c : Code} {T : State} {locs : List Loc} {cells slots : Nat} {Z : State} {a0 : Array Value} (X : Stand p l e R s m args below meth c T locs cells slots) (hx : p.tables.exec = Jvm.exec) (hZ : Z.Warmed39 s.vm) (hw : ∀ d ∈ tables_1, d.before a0 Z = true) (hby : c.code = method_3_code) (hown : s.vm.findClass "com/example/libxdm/libxdm/model/XmlNamesIsNameStartPinLaw" = some m.cls) (hret : meth.sig.returnType = some .boolean) (x w : Int32) (hv : v2_72 x = w) {fs : List Frame} (hr : ∀ (f : JFrame) (acts : List Action), f.method = m → f.locked = none → f.entered = [] → (doReturn e (T.setTop f) acts (some (.int w))).1 = T.setFrames fs) : Steps p.tables e below (T.setTop (mkF m 72 #[.val (.int x)] [])) (T.setFrames fs) := by
  change (1 : Int32) = w at hv
  show Steps p.tables e below (T.setTop (mkF m 72 #[.val (.int x)] [])) _
  refine XS.iconst X.here hx rfl (hb hby d2_72) ?_
  show Steps p.tables e below (T.setTop (mkF m 73 #[.val (.int x)] [(.int (1 : Int32))])) _
  refine XS.goto X.here hx rfl (pc0 := 73) (pc' := 77) rfl (hb hby d2_73) (by decide) (by decide) ?_
  show Steps p.tables e below (T.setTop (mkF m 77 #[.val (.int x)] [(.int (1 : Int32))])) _
  subst hv
  exact retN X hx (t := .boolean) hret (by simp) (hb hby d2_77) hr
def v2_65 (x : Int32) : Int32 := (if x = (247 : Int32) then v2_76 x else v2_72 x)
set_option maxRecDepth 65536 in
set_option maxHeartbeats 40000000 in
theorem b2_65 {p : Program} {l : Launch} {e : Env} {R : Room} {s : State} {m : MethodId} {args : Array Value} {below : List Frame} {meth : Method} {c : Code} {T : State} {locs : List Loc} {cells slots : Nat} {Z : State} {a0 : Array Value} (X : Stand p l e R s m args below meth c T locs cells slots) (hx : p.tables.exec = Jvm.exec) (hZ : Z.Warmed39 s.vm) (hw : ∀ d ∈ tables_1, d.before a0 Z = true) (hby : c.code = method_3_code) (hown : s.vm.findClass "com/example/libxdm/libxdm/model/XmlNamesIsNameStartPinLaw" = some m.cls) (hret : meth.sig.returnType = some .boolean) (x w : Int32) (hv : v2_65 x = w) {fs : List Frame} (hr : ∀ (f : JFrame) (acts : List Action), f.method = m → f.locked = none → f.entered = [] → (doReturn e (T.setTop f) acts (some (.int w))).1 = T.setFrames fs) : Steps p.tables e below (T.setTop (mkF m 65 #[.val (.int x)] [])) (T.setFrames fs) := by
  change (if x = (247 : Int32) then v2_76 x else v2_72 x) = w at hv
  show Steps p.tables e below (T.setTop (mkF m 65 #[.val (.int x)] [])) _
  refine XS.iloadN X.here hx rfl (hb hby d2_65) rfl ?_
  show Steps p.tables e below (T.setTop (mkF m 66 #[.val (.int x)] [(.int x)])) _
  refine XS.sipush X.here hx rfl (hb hby d2_66) ?_
  show Steps p.tables e below (T.setTop (mkF m 69 #[.val (.int x)] [(.int (247 : Int32)), (.int x)])) _
  by_cases hc0 : x = (247 : Int32)
  · rw [if_pos hc0] at hv
    refine XS.icmpYes X.here hx rfl (pc0 := 69) (pc' := 76) rfl (hb hby d2_69) rfl (teq hc0).1 (by decide) (by decide) ?_
    exact b2_76 X hx hZ hw hby hown hret x w hv hr
  · rw [if_neg hc0] at hv
    refine XS.icmpNo X.here hx rfl (hb hby d2_69) rfl (feq hc0).1 ?_
    exact b2_72 X hx hZ hw hby hown hret x w hv hr
def v2_58 (x : Int32) : Int32 := (if x = (215 : Int32) then v2_76 x else v2_65 x)
set_option maxRecDepth 65536 in
set_option maxHeartbeats 40000000 in
theorem b2_58 {p : Program} {l : Launch} {e : Env} {R : Room} {s : State} {m : MethodId} {args : Array Value} {below : List Frame} {meth : Method} {c : Code} {T : State} {locs : List Loc} {cells slots : Nat} {Z : State} {a0 : Array Value} (X : Stand p l e R s m args below meth c T locs cells slots) (hx : p.tables.exec = Jvm.exec) (hZ : Z.Warmed39 s.vm) (hw : ∀ d ∈ tables_1, d.before a0 Z = true) (hby : c.code = method_3_code) (hown : s.vm.findClass "com/example/libxdm/libxdm/model/XmlNamesIsNameStartPinLaw" = some m.cls) (hret : meth.sig.returnType = some .boolean) (x w : Int32) (hv : v2_58 x = w) {fs : List Frame} (hr : ∀ (f : JFrame) (acts : List Action), f.method = m → f.locked = none → f.entered = [] → (doReturn e (T.setTop f) acts (some (.int w))).1 = T.setFrames fs) : Steps p.tables e below (T.setTop (mkF m 58 #[.val (.int x)] [])) (T.setFrames fs) := by
  change (if x = (215 : Int32) then v2_76 x else v2_65 x) = w at hv
  show Steps p.tables e below (T.setTop (mkF m 58 #[.val (.int x)] [])) _
  refine XS.iloadN X.here hx rfl (hb hby d2_58) rfl ?_
  show Steps p.tables e below (T.setTop (mkF m 59 #[.val (.int x)] [(.int x)])) _
  refine XS.sipush X.here hx rfl (hb hby d2_59) ?_
  show Steps p.tables e below (T.setTop (mkF m 62 #[.val (.int x)] [(.int (215 : Int32)), (.int x)])) _
  by_cases hc0 : x = (215 : Int32)
  · rw [if_pos hc0] at hv
    refine XS.icmpYes X.here hx rfl (pc0 := 62) (pc' := 76) rfl (hb hby d2_62) rfl (teq hc0).1 (by decide) (by decide) ?_
    exact b2_76 X hx hZ hw hby hown hret x w hv hr
  · rw [if_neg hc0] at hv
    refine XS.icmpNo X.here hx rfl (hb hby d2_62) rfl (feq hc0).1 ?_
    exact b2_65 X hx hZ hw hby hown hret x w hv hr
def v2_56 (x : Int32) : Int32 := (0 : Int32)
set_option maxRecDepth 65536 in
set_option maxHeartbeats 40000000 in
theorem b2_56 {p : Program} {l : Launch} {e : Env} {R : Room} {s : State} {m : MethodId} {args : Array Value} {below : List Frame} {meth : Method} {c : Code} {T : State} {locs : List Loc} {cells slots : Nat} {Z : State} {a0 : Array Value} (X : Stand p l e R s m args below meth c T locs cells slots) (hx : p.tables.exec = Jvm.exec) (hZ : Z.Warmed39 s.vm) (hw : ∀ d ∈ tables_1, d.before a0 Z = true) (hby : c.code = method_3_code) (hown : s.vm.findClass "com/example/libxdm/libxdm/model/XmlNamesIsNameStartPinLaw" = some m.cls) (hret : meth.sig.returnType = some .boolean) (x w : Int32) (hv : v2_56 x = w) {fs : List Frame} (hr : ∀ (f : JFrame) (acts : List Action), f.method = m → f.locked = none → f.entered = [] → (doReturn e (T.setTop f) acts (some (.int w))).1 = T.setFrames fs) : Steps p.tables e below (T.setTop (mkF m 56 #[.val (.int x)] [])) (T.setFrames fs) := by
  change (0 : Int32) = w at hv
  show Steps p.tables e below (T.setTop (mkF m 56 #[.val (.int x)] [])) _
  refine XS.iconst X.here hx rfl (hb hby d2_56) ?_
  show Steps p.tables e below (T.setTop (mkF m 57 #[.val (.int x)] [(.int (0 : Int32))])) _
  subst hv
  exact retN X hx (t := .boolean) hret (by simp) (hb hby d2_57) hr
def v2_49 (x : Int32) : Int32 := (if (191 : Int32) < x then v2_58 x else v2_56 x)
set_option maxRecDepth 65536 in
set_option maxHeartbeats 40000000 in
theorem b2_49 {p : Program} {l : Launch} {e : Env} {R : Room} {s : State} {m : MethodId} {args : Array Value} {below : List Frame} {meth : Method} {c : Code} {T : State} {locs : List Loc} {cells slots : Nat} {Z : State} {a0 : Array Value} (X : Stand p l e R s m args below meth c T locs cells slots) (hx : p.tables.exec = Jvm.exec) (hZ : Z.Warmed39 s.vm) (hw : ∀ d ∈ tables_1, d.before a0 Z = true) (hby : c.code = method_3_code) (hown : s.vm.findClass "com/example/libxdm/libxdm/model/XmlNamesIsNameStartPinLaw" = some m.cls) (hret : meth.sig.returnType = some .boolean) (x w : Int32) (hv : v2_49 x = w) {fs : List Frame} (hr : ∀ (f : JFrame) (acts : List Action), f.method = m → f.locked = none → f.entered = [] → (doReturn e (T.setTop f) acts (some (.int w))).1 = T.setFrames fs) : Steps p.tables e below (T.setTop (mkF m 49 #[.val (.int x)] [])) (T.setFrames fs) := by
  change (if (191 : Int32) < x then v2_58 x else v2_56 x) = w at hv
  show Steps p.tables e below (T.setTop (mkF m 49 #[.val (.int x)] [])) _
  refine XS.iloadN X.here hx rfl (hb hby d2_49) rfl ?_
  show Steps p.tables e below (T.setTop (mkF m 50 #[.val (.int x)] [(.int x)])) _
  refine XS.sipush X.here hx rfl (hb hby d2_50) ?_
  show Steps p.tables e below (T.setTop (mkF m 53 #[.val (.int x)] [(.int (191 : Int32)), (.int x)])) _
  by_cases hc0 : (191 : Int32) < x
  · rw [if_pos hc0] at hv
    refine XS.icmpYes X.here hx rfl (pc0 := 53) (pc' := 58) rfl (hb hby d2_53) rfl (tlt hc0).2.2.1 (by decide) (by decide) ?_
    exact b2_58 X hx hZ hw hby hown hret x w hv hr
  · rw [if_neg hc0] at hv
    refine XS.icmpNo X.here hx rfl (hb hby d2_53) rfl (flt hc0).2.2.1 ?_
    exact b2_56 X hx hZ hw hby hown hret x w hv hr
def v2_43 (x : Int32) : Int32 := (if x < (123 : Int32) then v2_58 x else v2_49 x)
set_option maxRecDepth 65536 in
set_option maxHeartbeats 40000000 in
theorem b2_43 {p : Program} {l : Launch} {e : Env} {R : Room} {s : State} {m : MethodId} {args : Array Value} {below : List Frame} {meth : Method} {c : Code} {T : State} {locs : List Loc} {cells slots : Nat} {Z : State} {a0 : Array Value} (X : Stand p l e R s m args below meth c T locs cells slots) (hx : p.tables.exec = Jvm.exec) (hZ : Z.Warmed39 s.vm) (hw : ∀ d ∈ tables_1, d.before a0 Z = true) (hby : c.code = method_3_code) (hown : s.vm.findClass "com/example/libxdm/libxdm/model/XmlNamesIsNameStartPinLaw" = some m.cls) (hret : meth.sig.returnType = some .boolean) (x w : Int32) (hv : v2_43 x = w) {fs : List Frame} (hr : ∀ (f : JFrame) (acts : List Action), f.method = m → f.locked = none → f.entered = [] → (doReturn e (T.setTop f) acts (some (.int w))).1 = T.setFrames fs) : Steps p.tables e below (T.setTop (mkF m 43 #[.val (.int x)] [])) (T.setFrames fs) := by
  change (if x < (123 : Int32) then v2_58 x else v2_49 x) = w at hv
  show Steps p.tables e below (T.setTop (mkF m 43 #[.val (.int x)] [])) _
  refine XS.iloadN X.here hx rfl (hb hby d2_43) rfl ?_
  show Steps p.tables e below (T.setTop (mkF m 44 #[.val (.int x)] [(.int x)])) _
  refine XS.bipush X.here hx rfl (hb hby d2_44) ?_
  show Steps p.tables e below (T.setTop (mkF m 46 #[.val (.int x)] [(.int (123 : Int32)), (.int x)])) _
  by_cases hc0 : x < (123 : Int32)
  · rw [if_pos hc0] at hv
    refine XS.icmpYes X.here hx rfl (pc0 := 46) (pc' := 58) rfl (hb hby d2_46) rfl (tlt hc0).1 (by decide) (by decide) ?_
    exact b2_58 X hx hZ hw hby hown hret x w hv hr
  · rw [if_neg hc0] at hv
    refine XS.icmpNo X.here hx rfl (hb hby d2_46) rfl (flt hc0).1 ?_
    exact b2_49 X hx hZ hw hby hown hret x w hv hr
def v2_41 (x : Int32) : Int32 := (0 : Int32)
set_option maxRecDepth 65536 in
set_option maxHeartbeats 40000000 in
theorem b2_41 {p : Program} {l : Launch} {e : Env} {R : Room} {s : State} {m : MethodId} {args : Array Value} {below : List Frame} {meth : Method} {c : Code} {T : State} {locs : List Loc} {cells slots : Nat} {Z : State} {a0 : Array Value} (X : Stand p l e R s m args below meth c T locs cells slots) (hx : p.tables.exec = Jvm.exec) (hZ : Z.Warmed39 s.vm) (hw : ∀ d ∈ tables_1, d.before a0 Z = true) (hby : c.code = method_3_code) (hown : s.vm.findClass "com/example/libxdm/libxdm/model/XmlNamesIsNameStartPinLaw" = some m.cls) (hret : meth.sig.returnType = some .boolean) (x w : Int32) (hv : v2_41 x = w) {fs : List Frame} (hr : ∀ (f : JFrame) (acts : List Action), f.method = m → f.locked = none → f.entered = [] → (doReturn e (T.setTop f) acts (some (.int w))).1 = T.setFrames fs) : Steps p.tables e below (T.setTop (mkF m 41 #[.val (.int x)] [])) (T.setFrames fs) := by
  change (0 : Int32) = w at hv
  show Steps p.tables e below (T.setTop (mkF m 41 #[.val (.int x)] [])) _
  refine XS.iconst X.here hx rfl (hb hby d2_41) ?_
  show Steps p.tables e below (T.setTop (mkF m 42 #[.val (.int x)] [(.int (0 : Int32))])) _
  subst hv
  exact retN X hx (t := .boolean) hret (by simp) (hb hby d2_42) hr
def v2_35 (x : Int32) : Int32 := (if x = (96 : Int32) then v2_41 x else v2_43 x)
set_option maxRecDepth 65536 in
set_option maxHeartbeats 40000000 in
theorem b2_35 {p : Program} {l : Launch} {e : Env} {R : Room} {s : State} {m : MethodId} {args : Array Value} {below : List Frame} {meth : Method} {c : Code} {T : State} {locs : List Loc} {cells slots : Nat} {Z : State} {a0 : Array Value} (X : Stand p l e R s m args below meth c T locs cells slots) (hx : p.tables.exec = Jvm.exec) (hZ : Z.Warmed39 s.vm) (hw : ∀ d ∈ tables_1, d.before a0 Z = true) (hby : c.code = method_3_code) (hown : s.vm.findClass "com/example/libxdm/libxdm/model/XmlNamesIsNameStartPinLaw" = some m.cls) (hret : meth.sig.returnType = some .boolean) (x w : Int32) (hv : v2_35 x = w) {fs : List Frame} (hr : ∀ (f : JFrame) (acts : List Action), f.method = m → f.locked = none → f.entered = [] → (doReturn e (T.setTop f) acts (some (.int w))).1 = T.setFrames fs) : Steps p.tables e below (T.setTop (mkF m 35 #[.val (.int x)] [])) (T.setFrames fs) := by
  change (if x = (96 : Int32) then v2_41 x else v2_43 x) = w at hv
  show Steps p.tables e below (T.setTop (mkF m 35 #[.val (.int x)] [])) _
  refine XS.iloadN X.here hx rfl (hb hby d2_35) rfl ?_
  show Steps p.tables e below (T.setTop (mkF m 36 #[.val (.int x)] [(.int x)])) _
  refine XS.bipush X.here hx rfl (hb hby d2_36) ?_
  show Steps p.tables e below (T.setTop (mkF m 38 #[.val (.int x)] [(.int (96 : Int32)), (.int x)])) _
  by_cases hc0 : x = (96 : Int32)
  · rw [if_pos hc0] at hv
    refine XS.icmpNo X.here hx rfl (hb hby d2_38) rfl (teq hc0).2 ?_
    exact b2_41 X hx hZ hw hby hown hret x w hv hr
  · rw [if_neg hc0] at hv
    refine XS.icmpYes X.here hx rfl (pc0 := 38) (pc' := 43) rfl (hb hby d2_38) rfl (feq hc0).2 (by decide) (by decide) ?_
    exact b2_43 X hx hZ hw hby hown hret x w hv hr
def v2_33 (x : Int32) : Int32 := (0 : Int32)
set_option maxRecDepth 65536 in
set_option maxHeartbeats 40000000 in
theorem b2_33 {p : Program} {l : Launch} {e : Env} {R : Room} {s : State} {m : MethodId} {args : Array Value} {below : List Frame} {meth : Method} {c : Code} {T : State} {locs : List Loc} {cells slots : Nat} {Z : State} {a0 : Array Value} (X : Stand p l e R s m args below meth c T locs cells slots) (hx : p.tables.exec = Jvm.exec) (hZ : Z.Warmed39 s.vm) (hw : ∀ d ∈ tables_1, d.before a0 Z = true) (hby : c.code = method_3_code) (hown : s.vm.findClass "com/example/libxdm/libxdm/model/XmlNamesIsNameStartPinLaw" = some m.cls) (hret : meth.sig.returnType = some .boolean) (x w : Int32) (hv : v2_33 x = w) {fs : List Frame} (hr : ∀ (f : JFrame) (acts : List Action), f.method = m → f.locked = none → f.entered = [] → (doReturn e (T.setTop f) acts (some (.int w))).1 = T.setFrames fs) : Steps p.tables e below (T.setTop (mkF m 33 #[.val (.int x)] [])) (T.setFrames fs) := by
  change (0 : Int32) = w at hv
  show Steps p.tables e below (T.setTop (mkF m 33 #[.val (.int x)] [])) _
  refine XS.iconst X.here hx rfl (hb hby d2_33) ?_
  show Steps p.tables e below (T.setTop (mkF m 34 #[.val (.int x)] [(.int (0 : Int32))])) _
  subst hv
  exact retN X hx (t := .boolean) hret (by simp) (hb hby d2_34) hr
def v2_27 (x : Int32) : Int32 := (if (94 : Int32) < x then v2_35 x else v2_33 x)
set_option maxRecDepth 65536 in
set_option maxHeartbeats 40000000 in
theorem b2_27 {p : Program} {l : Launch} {e : Env} {R : Room} {s : State} {m : MethodId} {args : Array Value} {below : List Frame} {meth : Method} {c : Code} {T : State} {locs : List Loc} {cells slots : Nat} {Z : State} {a0 : Array Value} (X : Stand p l e R s m args below meth c T locs cells slots) (hx : p.tables.exec = Jvm.exec) (hZ : Z.Warmed39 s.vm) (hw : ∀ d ∈ tables_1, d.before a0 Z = true) (hby : c.code = method_3_code) (hown : s.vm.findClass "com/example/libxdm/libxdm/model/XmlNamesIsNameStartPinLaw" = some m.cls) (hret : meth.sig.returnType = some .boolean) (x w : Int32) (hv : v2_27 x = w) {fs : List Frame} (hr : ∀ (f : JFrame) (acts : List Action), f.method = m → f.locked = none → f.entered = [] → (doReturn e (T.setTop f) acts (some (.int w))).1 = T.setFrames fs) : Steps p.tables e below (T.setTop (mkF m 27 #[.val (.int x)] [])) (T.setFrames fs) := by
  change (if (94 : Int32) < x then v2_35 x else v2_33 x) = w at hv
  show Steps p.tables e below (T.setTop (mkF m 27 #[.val (.int x)] [])) _
  refine XS.iloadN X.here hx rfl (hb hby d2_27) rfl ?_
  show Steps p.tables e below (T.setTop (mkF m 28 #[.val (.int x)] [(.int x)])) _
  refine XS.bipush X.here hx rfl (hb hby d2_28) ?_
  show Steps p.tables e below (T.setTop (mkF m 30 #[.val (.int x)] [(.int (94 : Int32)), (.int x)])) _
  by_cases hc0 : (94 : Int32) < x
  · rw [if_pos hc0] at hv
    refine XS.icmpYes X.here hx rfl (pc0 := 30) (pc' := 35) rfl (hb hby d2_30) rfl (tlt hc0).2.2.1 (by decide) (by decide) ?_
    exact b2_35 X hx hZ hw hby hown hret x w hv hr
  · rw [if_neg hc0] at hv
    refine XS.icmpNo X.here hx rfl (hb hby d2_30) rfl (flt hc0).2.2.1 ?_
    exact b2_33 X hx hZ hw hby hown hret x w hv hr
def v2_21 (x : Int32) : Int32 := (if x < (91 : Int32) then v2_35 x else v2_27 x)
set_option maxRecDepth 65536 in
set_option maxHeartbeats 40000000 in
theorem b2_21 {p : Program} {l : Launch} {e : Env} {R : Room} {s : State} {m : MethodId} {args : Array Value} {below : List Frame} {meth : Method} {c : Code} {T : State} {locs : List Loc} {cells slots : Nat} {Z : State} {a0 : Array Value} (X : Stand p l e R s m args below meth c T locs cells slots) (hx : p.tables.exec = Jvm.exec) (hZ : Z.Warmed39 s.vm) (hw : ∀ d ∈ tables_1, d.before a0 Z = true) (hby : c.code = method_3_code) (hown : s.vm.findClass "com/example/libxdm/libxdm/model/XmlNamesIsNameStartPinLaw" = some m.cls) (hret : meth.sig.returnType = some .boolean) (x w : Int32) (hv : v2_21 x = w) {fs : List Frame} (hr : ∀ (f : JFrame) (acts : List Action), f.method = m → f.locked = none → f.entered = [] → (doReturn e (T.setTop f) acts (some (.int w))).1 = T.setFrames fs) : Steps p.tables e below (T.setTop (mkF m 21 #[.val (.int x)] [])) (T.setFrames fs) := by
  change (if x < (91 : Int32) then v2_35 x else v2_27 x) = w at hv
  show Steps p.tables e below (T.setTop (mkF m 21 #[.val (.int x)] [])) _
  refine XS.iloadN X.here hx rfl (hb hby d2_21) rfl ?_
  show Steps p.tables e below (T.setTop (mkF m 22 #[.val (.int x)] [(.int x)])) _
  refine XS.bipush X.here hx rfl (hb hby d2_22) ?_
  show Steps p.tables e below (T.setTop (mkF m 24 #[.val (.int x)] [(.int (91 : Int32)), (.int x)])) _
  by_cases hc0 : x < (91 : Int32)
  · rw [if_pos hc0] at hv
    refine XS.icmpYes X.here hx rfl (pc0 := 24) (pc' := 35) rfl (hb hby d2_24) rfl (tlt hc0).1 (by decide) (by decide) ?_
    exact b2_35 X hx hZ hw hby hown hret x w hv hr
  · rw [if_neg hc0] at hv
    refine XS.icmpNo X.here hx rfl (hb hby d2_24) rfl (flt hc0).1 ?_
    exact b2_27 X hx hZ hw hby hown hret x w hv hr
def v2_14 (x : Int32) : Int32 := (if (255 : Int32) < x then v2_78 x else v2_21 x)
set_option maxRecDepth 65536 in
set_option maxHeartbeats 40000000 in
theorem b2_14 {p : Program} {l : Launch} {e : Env} {R : Room} {s : State} {m : MethodId} {args : Array Value} {below : List Frame} {meth : Method} {c : Code} {T : State} {locs : List Loc} {cells slots : Nat} {Z : State} {a0 : Array Value} (X : Stand p l e R s m args below meth c T locs cells slots) (hx : p.tables.exec = Jvm.exec) (hZ : Z.Warmed39 s.vm) (hw : ∀ d ∈ tables_1, d.before a0 Z = true) (hby : c.code = method_3_code) (hown : s.vm.findClass "com/example/libxdm/libxdm/model/XmlNamesIsNameStartPinLaw" = some m.cls) (hret : meth.sig.returnType = some .boolean) (x w : Int32) (hv : v2_14 x = w) {fs : List Frame} (hr : ∀ (f : JFrame) (acts : List Action), f.method = m → f.locked = none → f.entered = [] → (doReturn e (T.setTop f) acts (some (.int w))).1 = T.setFrames fs) : Steps p.tables e below (T.setTop (mkF m 14 #[.val (.int x)] [])) (T.setFrames fs) := by
  change (if (255 : Int32) < x then v2_78 x else v2_21 x) = w at hv
  show Steps p.tables e below (T.setTop (mkF m 14 #[.val (.int x)] [])) _
  refine XS.iloadN X.here hx rfl (hb hby d2_14) rfl ?_
  show Steps p.tables e below (T.setTop (mkF m 15 #[.val (.int x)] [(.int x)])) _
  refine XS.sipush X.here hx rfl (hb hby d2_15) ?_
  show Steps p.tables e below (T.setTop (mkF m 18 #[.val (.int x)] [(.int (255 : Int32)), (.int x)])) _
  by_cases hc0 : (255 : Int32) < x
  · rw [if_pos hc0] at hv
    refine XS.icmpYes X.here hx rfl (pc0 := 18) (pc' := 78) rfl (hb hby d2_18) rfl (tlt hc0).2.2.1 (by decide) (by decide) ?_
    exact b2_78 X hx hZ hw hby hown hret x w hv hr
  · rw [if_neg hc0] at hv
    refine XS.icmpNo X.here hx rfl (hb hby d2_18) rfl (flt hc0).2.2.1 ?_
    exact b2_21 X hx hZ hw hby hown hret x w hv hr
def v2_12 (x : Int32) : Int32 := (0 : Int32)
set_option maxRecDepth 65536 in
set_option maxHeartbeats 40000000 in
theorem b2_12 {p : Program} {l : Launch} {e : Env} {R : Room} {s : State} {m : MethodId} {args : Array Value} {below : List Frame} {meth : Method} {c : Code} {T : State} {locs : List Loc} {cells slots : Nat} {Z : State} {a0 : Array Value} (X : Stand p l e R s m args below meth c T locs cells slots) (hx : p.tables.exec = Jvm.exec) (hZ : Z.Warmed39 s.vm) (hw : ∀ d ∈ tables_1, d.before a0 Z = true) (hby : c.code = method_3_code) (hown : s.vm.findClass "com/example/libxdm/libxdm/model/XmlNamesIsNameStartPinLaw" = some m.cls) (hret : meth.sig.returnType = some .boolean) (x w : Int32) (hv : v2_12 x = w) {fs : List Frame} (hr : ∀ (f : JFrame) (acts : List Action), f.method = m → f.locked = none → f.entered = [] → (doReturn e (T.setTop f) acts (some (.int w))).1 = T.setFrames fs) : Steps p.tables e below (T.setTop (mkF m 12 #[.val (.int x)] [])) (T.setFrames fs) := by
  change (0 : Int32) = w at hv
  show Steps p.tables e below (T.setTop (mkF m 12 #[.val (.int x)] [])) _
  refine XS.iconst X.here hx rfl (hb hby d2_12) ?_
  show Steps p.tables e below (T.setTop (mkF m 13 #[.val (.int x)] [(.int (0 : Int32))])) _
  subst hv
  exact retN X hx (t := .boolean) hret (by simp) (hb hby d2_13) hr
def v2_6 (x : Int32) : Int32 := (if (983039 : Int32) < x then v2_12 x else v2_14 x)
set_option maxRecDepth 65536 in
set_option maxHeartbeats 40000000 in
theorem b2_6 {p : Program} {l : Launch} {e : Env} {R : Room} {s : State} {m : MethodId} {args : Array Value} {below : List Frame} {meth : Method} {c : Code} {T : State} {locs : List Loc} {cells slots : Nat} {Z : State} {a0 : Array Value} (X : Stand p l e R s m args below meth c T locs cells slots) (hx : p.tables.exec = Jvm.exec) (hZ : Z.Warmed39 s.vm) (hw : ∀ d ∈ tables_1, d.before a0 Z = true) (hby : c.code = method_3_code) (hown : s.vm.findClass "com/example/libxdm/libxdm/model/XmlNamesIsNameStartPinLaw" = some m.cls) (hret : meth.sig.returnType = some .boolean) (x w : Int32) (hv : v2_6 x = w) {fs : List Frame} (hr : ∀ (f : JFrame) (acts : List Action), f.method = m → f.locked = none → f.entered = [] → (doReturn e (T.setTop f) acts (some (.int w))).1 = T.setFrames fs) : Steps p.tables e below (T.setTop (mkF m 6 #[.val (.int x)] [])) (T.setFrames fs) := by
  change (if (983039 : Int32) < x then v2_12 x else v2_14 x) = w at hv
  show Steps p.tables e below (T.setTop (mkF m 6 #[.val (.int x)] [])) _
  refine XS.iloadN X.here hx rfl (hb hby d2_6) rfl ?_
  show Steps p.tables e below (T.setTop (mkF m 7 #[.val (.int x)] [(.int x)])) _
  refine X.ldcI hx hown (v := (983039 : Int32)) (mvT hZ (hw _ (List.mem_of_getElem? (i := 7) rfl))) rfl (hb hby d2_7) ?_
  show Steps p.tables e below (T.setTop (mkF m 9 #[.val (.int x)] [(.int (983039 : Int32)), (.int x)])) _
  by_cases hc0 : (983039 : Int32) < x
  · rw [if_pos hc0] at hv
    refine XS.icmpNo X.here hx rfl (hb hby d2_9) rfl (tlt hc0).2.2.2 ?_
    exact b2_12 X hx hZ hw hby hown hret x w hv hr
  · rw [if_neg hc0] at hv
    refine XS.icmpYes X.here hx rfl (pc0 := 9) (pc' := 14) rfl (hb hby d2_9) rfl (flt hc0).2.2.2 (by decide) (by decide) ?_
    exact b2_14 X hx hZ hw hby hown hret x w hv hr
def v2_0 (x : Int32) : Int32 := (if x < (65 : Int32) then v2_12 x else v2_6 x)
set_option maxRecDepth 65536 in
set_option maxHeartbeats 40000000 in
theorem b2_0 {p : Program} {l : Launch} {e : Env} {R : Room} {s : State} {m : MethodId} {args : Array Value} {below : List Frame} {meth : Method} {c : Code} {T : State} {locs : List Loc} {cells slots : Nat} {Z : State} {a0 : Array Value} (X : Stand p l e R s m args below meth c T locs cells slots) (hx : p.tables.exec = Jvm.exec) (hZ : Z.Warmed39 s.vm) (hw : ∀ d ∈ tables_1, d.before a0 Z = true) (hby : c.code = method_3_code) (hown : s.vm.findClass "com/example/libxdm/libxdm/model/XmlNamesIsNameStartPinLaw" = some m.cls) (hret : meth.sig.returnType = some .boolean) (x w : Int32) (hv : v2_0 x = w) {fs : List Frame} (hr : ∀ (f : JFrame) (acts : List Action), f.method = m → f.locked = none → f.entered = [] → (doReturn e (T.setTop f) acts (some (.int w))).1 = T.setFrames fs) : Steps p.tables e below (T.setTop (mkF m 0 #[.val (.int x)] [])) (T.setFrames fs) := by
  change (if x < (65 : Int32) then v2_12 x else v2_6 x) = w at hv
  show Steps p.tables e below (T.setTop (mkF m 0 #[.val (.int x)] [])) _
  refine XS.iloadN X.here hx rfl (hb hby d2_0) rfl ?_
  show Steps p.tables e below (T.setTop (mkF m 1 #[.val (.int x)] [(.int x)])) _
  refine XS.bipush X.here hx rfl (hb hby d2_1) ?_
  show Steps p.tables e below (T.setTop (mkF m 3 #[.val (.int x)] [(.int (65 : Int32)), (.int x)])) _
  by_cases hc0 : x < (65 : Int32)
  · rw [if_pos hc0] at hv
    refine XS.icmpYes X.here hx rfl (pc0 := 3) (pc' := 12) rfl (hb hby d2_3) rfl (tlt hc0).1 (by decide) (by decide) ?_
    exact b2_12 X hx hZ hw hby hown hret x w hv hr
  · rw [if_neg hc0] at hv
    refine XS.icmpNo X.here hx rfl (hb hby d2_3) rfl (flt hc0).1 ?_
    exact b2_6 X hx hZ hw hby hown hret x w hv hr
theorem pn_2 : plainName "com/example/libxdm/libxdm/model/XmlNamesIsNameStartPinLaw" = true := by first | (simp [plainName, overriddenIn]; done) | decide +kernel
theorem ef_2 (m : MethodId) (x0 : Int32) : entryFrame m #[(.int x0)] 1 = mkF m 0 #[.val (.int x0)] [] := by first | (simp [entryFrame, mkF, argsToLocals, Value.category]; done) | rfl
def Q2 (Z : State) (p1 : Int32) (h0 : Heap) (n0 : Nat) (v : Option Value) (h : Heap) (L : List Loc) : Prop := v = some (.int (v2_0 p1)) ∧ Fr n0 L ∧ h = h0
set_option maxRecDepth 65536 in
set_option maxHeartbeats 40000000 in
theorem rm2 (l : Launch) (Z : State) (a0 : Array Value) (hw : ∀ d ∈ tables_1, d.before a0 Z = true) (ws : List Jvm.Cond) (p1 : Int32) (h0 : Heap) (n0 : Nat) :
    MetFree l (⟨"com/example/libxdm/libxdm/model/XmlNamesIsNameStartPinLaw", "ref", "(I)Z"⟩ : MethodName) (head1 (Jvm.Cond.code (⟨"com/example/libxdm/libxdm/model/XmlNamesIsNameStartPinLaw", "ref", "(I)Z"⟩ : MethodName) method_3_code 1 (some .boolean) :: ws) ({ frames := 0, cells := 0, slots := 0, locals := 0 } : Room)) (fun a U => a = #[(.int p1)] ∧ Z.Warmed39 U.vm ∧ U.heap = h0) (fun _ _ _ _ _ => True) (fun _ U o U' => ∃ v L, o = .returned v ∧ Q2 Z p1 h0 n0 v U'.heap L ∧ FrameEnd U o U' L ({ frames := 0, cells := 0, slots := 0, locals := 0 } : Room).cells ({ frames := 0, cells := 0, slots := 0, locals := 0 } : Room).slots) := by
  refine MetFree.of_bodySF (plainFor_of_name pn_2) hisR ?_
  intro p e s m args below meth c s₁ Bd hml0 hP hK
  obtain ⟨rfl, hZ, hh⟩ := hP
  have hx := Bd.exec
  have hby := Bd.bytes
  have hown : s.vm.findClass "com/example/libxdm/libxdm/model/XmlNamesIsNameStartPinLaw" = some m.cls := findClass_of_methodNamed Bd.named
  have X0 : Stand p l e ({ frames := 0, cells := 0, slots := 0, locals := 0 } : Room) s m #[(.int p1)] below meth c s₁ [] 0 0 := Stand.of_body Bd
  have e0 : s₁.heap = h0 := by rw [← hh, Bd.state]; rfl
  have N0 := Fr.nil n0
  have pre0 : ∀ t, Steps p.tables e below (s₁.setTop (mkF m 0 #[.val (.int p1)] [])) t → Steps p.tables e below (s₁.setTop (entryFrame m #[(.int p1)] 1)) t := fun t k => castTop (ef_2 m p1) k
  obtain ⟨fs, hr, hrun, hended, hW, hsame⟩ := X0.leave (v := some (.int (v2_0 p1))) (fun h => by rw [Bd.returns] at h; cases h)
  refine ⟨_, _, pre0 _ ?_, hrun, hended, _, _, rfl, ?_, ⟨_, rfl⟩, hW, hsame.mono (by decide) (by decide)⟩
  · exact b2_0 X0 hx hZ hw hby hown Bd.returns p1 _ rfl hr
  · show Q2 Z p1 h0 n0 _ s₁.heap _
    rw [e0]
    exact ⟨rfl, N0, rfl⟩
theorem r2_0 (x : Int32) : v2_0 x = (if (x < (65 : Int32)) ∨ ((983039 : Int32) < x) then v2_12 x else v2_14 x) := by
  unfold v2_0 v2_6
  by_cases h1 : x < (65 : Int32) <;> by_cases h2 : (983039 : Int32) < x <;> simp [h1, h2]
theorem r2_14 (x : Int32) : v2_14 x = (if (255 : Int32) < x then v2_78 x else v2_21 x) := rfl
theorem r2_21 (x : Int32) : v2_21 x = (if (x < (91 : Int32)) ∨ ((94 : Int32) < x) then v2_35 x else v2_33 x) := by
  unfold v2_21 v2_27
  by_cases h1 : x < (91 : Int32) <;> by_cases h2 : (94 : Int32) < x <;> simp [h1, h2]
theorem r2_33 (x : Int32) : v2_33 x = (0 : Int32) := rfl
theorem r2_35 (x : Int32) : v2_35 x = (if x = (96 : Int32) then v2_41 x else v2_43 x) := rfl
theorem r2_43 (x : Int32) : v2_43 x = (if (x < (123 : Int32)) ∨ ((191 : Int32) < x) then v2_58 x else v2_56 x) := by
  unfold v2_43 v2_49
  by_cases h1 : x < (123 : Int32) <;> by_cases h2 : (191 : Int32) < x <;> simp [h1, h2]
theorem r2_56 (x : Int32) : v2_56 x = (0 : Int32) := rfl
theorem r2_58 (x : Int32) : v2_58 x = (if (x = (215 : Int32)) ∨ (x = (247 : Int32)) then v2_76 x else v2_72 x) := by
  unfold v2_58 v2_65
  by_cases h1 : x = (215 : Int32) <;> by_cases h2 : x = (247 : Int32) <;> simp [h1, h2]
theorem r2_72 (x : Int32) : v2_72 x = (1 : Int32) := rfl
theorem r2_76 (x : Int32) : v2_76 x = (0 : Int32) := rfl
theorem r2_41 (x : Int32) : v2_41 x = (0 : Int32) := rfl
theorem r2_78 (x : Int32) : v2_78 x = (if (x < (768 : Int32)) ∨ ((879 : Int32) < x) then v2_94 x else v2_92 x) := by
  unfold v2_78 v2_85
  by_cases h1 : x < (768 : Int32) <;> by_cases h2 : (879 : Int32) < x <;> simp [h1, h2]
theorem r2_92 (x : Int32) : v2_92 x = (0 : Int32) := rfl
theorem r2_94 (x : Int32) : v2_94 x = (if x = (894 : Int32) then v2_101 x else v2_103 x) := rfl
theorem r2_103 (x : Int32) : v2_103 x = (if (x < (8192 : Int32)) ∨ ((8303 : Int32) < x) then v2_137 x else v2_117 x) := by
  unfold v2_103 v2_110
  by_cases h1 : x < (8192 : Int32) <;> by_cases h2 : (8303 : Int32) < x <;> simp [h1, h2]
theorem r2_117 (x : Int32) : v2_117 x = (if (x = (8204 : Int32)) ∨ (x = (8205 : Int32)) then v2_131 x else v2_135 x) := by
  unfold v2_117 v2_124
  by_cases h1 : x = (8204 : Int32) <;> by_cases h2 : x = (8205 : Int32) <;> simp [h1, h2]
theorem r2_135 (x : Int32) : v2_135 x = (0 : Int32) := rfl
theorem r2_131 (x : Int32) : v2_131 x = (1 : Int32) := rfl
theorem r2_137 (x : Int32) : v2_137 x = (if (x < (8592 : Int32)) ∨ ((11263 : Int32) < x) then v2_153 x else v2_151 x) := by
  unfold v2_137 v2_144
  by_cases h1 : x < (8592 : Int32) <;> by_cases h2 : (11263 : Int32) < x <;> simp [h1, h2]
theorem r2_151 (x : Int32) : v2_151 x = (0 : Int32) := rfl
theorem r2_153 (x : Int32) : v2_153 x = (if (x < (12272 : Int32)) ∨ ((12288 : Int32) < x) then v2_169 x else v2_167 x) := by
  unfold v2_153 v2_160
  by_cases h1 : x < (12272 : Int32) <;> by_cases h2 : (12288 : Int32) < x <;> simp [h1, h2]
theorem r2_167 (x : Int32) : v2_167 x = (0 : Int32) := rfl
theorem r2_169 (x : Int32) : v2_169 x = (if (x < (55296 : Int32)) ∨ ((63743 : Int32) < x) then v2_183 x else v2_181 x) := by
  unfold v2_169 v2_175
  by_cases h1 : x < (55296 : Int32) <;> by_cases h2 : (63743 : Int32) < x <;> simp [h1, h2]
theorem r2_181 (x : Int32) : v2_181 x = (0 : Int32) := rfl
theorem r2_183 (x : Int32) : v2_183 x = (if (x < (64976 : Int32)) ∨ ((65007 : Int32) < x) then v2_197 x else v2_195 x) := by
  unfold v2_183 v2_189
  by_cases h1 : x < (64976 : Int32) <;> by_cases h2 : (65007 : Int32) < x <;> simp [h1, h2]
theorem r2_195 (x : Int32) : v2_195 x = (0 : Int32) := rfl
theorem r2_197 (x : Int32) : v2_197 x = (if (x = (65534 : Int32)) ∨ (x = (65535 : Int32)) then v2_213 x else v2_209 x) := by
  unfold v2_197 v2_203
  by_cases h1 : x = (65534 : Int32) <;> by_cases h2 : x = (65535 : Int32) <;> simp [h1, h2]
theorem r2_209 (x : Int32) : v2_209 x = (1 : Int32) := rfl
theorem r2_213 (x : Int32) : v2_213 x = (0 : Int32) := rfl
theorem r2_101 (x : Int32) : v2_101 x = (0 : Int32) := rfl
theorem r2_12 (x : Int32) : v2_12 x = (0 : Int32) := rfl
/-! the plain law -/
set_option maxHeartbeats 4000000 in
theorem own_same (x : Int32) : v1_0 x = v2_0 x := by
  simp only [r1_0, r1_191, r1_12, r1_24, r1_30, r1_44, r1_58, r1_72, r1_86, r1_100, r1_114, r1_128, r1_142, r1_155, r1_167, r1_179, r1_195, r2_0, r2_14, r2_21, r2_33, r2_35, r2_43, r2_56, r2_58, r2_72, r2_76, r2_41, r2_78, r2_92, r2_94, r2_103, r2_117, r2_135, r2_131, r2_137, r2_151, r2_153, r2_167, r2_169, r2_181, r2_183, r2_195, r2_197, r2_209, r2_213, r2_101, r2_12]
  simp only [Int32.lt_iff_toInt_lt, ← Int32.toInt_inj, apply_ite Int32.toInt, Int32.reduceToInt]
  omega
/-! arrays of ints: the array at a has n places; place j holds f j -/
def own_A (Z : State) (h : Heap) (a : Addr) (n : Nat) (f : Nat → Int32) : Prop := ∃ cl : Cell, Arr Z h a cl .int ∧ cl.slots.size = n ∧ ∀ j, j < n → cl.slots[j]? = some (.int (f j))
theorem own_A.lt {Z : State} {h : Heap} {a : Addr} {n : Nat} {f : Nat → Int32} (A : own_A Z h a n f) : a < h.size := by
  obtain ⟨cl, Ar, -⟩ := A
  exact Ar.lt
theorem own_A.ext {Z : State} {h h' : Heap} {a : Addr} {n : Nat} {f : Nat → Int32} (A : own_A Z h a n f) (E : Ext h h') : own_A Z h' a n f := by
  obtain ⟨cl, Ar, r⟩ := A
  exact ⟨cl, Ar.ext E, r⟩
theorem own_A.keep {Z : State} {h h' : Heap} {a : Addr} {n : Nat} {f : Nat → Int32} {ws : List Addr} (A : own_A Z h a n f) (K : Keep h h' ws) (q : a ∉ ws) : own_A Z h' a n f := by
  obtain ⟨cl, Ar, r⟩ := A
  exact ⟨cl, ⟨K.2.1 a cl Ar.1 q, Ar.2⟩, r⟩
theorem own_slot (cl : Cell) (k : Nat) (v : Value) (i : Nat) (hk : k < cl.slots.size) : (cl.setSlot k v).slots[i]? = if i = k then some v else cl.slots[i]? := by
  show (cl.slots.setIfInBounds k v)[i]? = _
  rw [Array.getElem?_setIfInBounds]
  by_cases q : k = i
  · subst q
    simp [hk]
  · rw [if_neg q, if_neg (fun z => q z.symm)]
set_option maxHeartbeats 4000000 in
theorem own_put {p : Program} {l : Launch} {e : Env} {R : Room} {s : State} {m : MethodId} {args : Array Value} {below : List Frame} {meth : Method} {c : Code} {T : State} {locs : List Loc} {cells slots : Nat} {Z : State} (X : Stand p l e R s m args below meth c T locs cells slots) (hx : p.tables.exec = Jvm.exec) (hZ : Z.Warmed39 s.vm) {h : Heap} (eT : T.heap = h) {a : Addr} {n : Nat} {f : Nat → Int32} (A : own_A Z h a n f) {n0 : Nat} (N : Fr n0 locs) (ga : n0 ≤ a) {j x : Int32} (hj : ¬ j < 0) (hk : j.toNatClampNeg < n) {g : JFrame} (hg : g.method = m) {rest : List Value} (hs : g.stack = .int x :: .int j :: .ref a :: rest) (hd : decode c.code g.pc = .ok (.iastore, 1)) :
    ∃ (T' : State) (h' : Heap) (locs' : List Loc), Stand p l e R s m args below meth c T' locs' cells slots ∧ T'.heap = h' ∧ Fr n0 locs' ∧ own_A Z h' a n (fun i => if i = j.toNatClampNeg then x else f i) ∧ Keep h h' [a] ∧ ∀ target, Steps p.tables e below (T'.setTop { g with pc := g.pc + 1, stack := rest }) target → Steps p.tables e below (T.setTop g) target := by
  obtain ⟨cl, Ar, S, V⟩ := A
  obtain ⟨T', h', X', e', W', st⟩ := stI X hx hZ eT Ar (j := j) (by rw [S]; exact fun q => q.elim hj (fun q => by omega)) hg hs hd
  refine ⟨T', h', _, X', e', Fr.snoc X' N ga, ⟨_, Ar.same W', by rw [sz_set]; exact S, fun i hi => ?_⟩, Keep.of_wr W', st⟩
  rw [own_slot _ _ _ _ (by omega)]
  show _ = some (Value.int (if i = j.toNatClampNeg then x else f i))
  by_cases q : i = j.toNatClampNeg
  · rw [if_pos q, if_pos q]
  · rw [if_neg q, if_neg q]
    exact V i hi
set_option maxHeartbeats 4000000 in
theorem own_load {p : Program} {l : Launch} {e : Env} {R : Room} {s : State} {m : MethodId} {args : Array Value} {below : List Frame} {meth : Method} {c : Code} {T : State} {locs : List Loc} {cells slots : Nat} {Z : State} (X : Stand p l e R s m args below meth c T locs cells slots) (hx : p.tables.exec = Jvm.exec) (hZ : Z.Warmed39 s.vm) {h : Heap} (eT : T.heap = h) {a : Addr} {n : Nat} {f : Nat → Int32} (A : own_A Z h a n f) {j : Int32} (hj : ¬ j < 0) (hk : j.toNatClampNeg < n) {g : JFrame} (hg : g.method = m) {rest : List Value} (hs : g.stack = .int j :: .ref a :: rest) (hd : decode c.code g.pc = .ok (.iaload, 1)) :
    ∃ z : Int32, z = f j.toNatClampNeg ∧ ∀ target, Steps p.tables e below (T.setTop { g with pc := g.pc + 1, stack := .int z :: rest }) target → Steps p.tables e below (T.setTop g) target := by
  obtain ⟨cl, Ar, S, V⟩ := A
  exact ⟨_, rfl, fun target hr => X.iaload hx (j := j) (v := .int (f j.toNatClampNeg)) (by rw [eT]; exact Ar.1) (State.isArrayOf_alike hZ.alike Ar.2.1) Ar.2.2 (by rw [S]; exact fun q => q.elim hj (fun q => by omega)) (V _ hk) hg hs hd target hr⟩
set_option maxHeartbeats 4000000 in
theorem own_new {p : Program} {l : Launch} {e : Env} {R : Room} {s : State} {m : MethodId} {args : Array Value} {below : List Frame} {meth : Method} {c : Code} {T : State} {locs : List Loc} {cells slots : Nat} {Z : State} (X : Stand p l e R s m args below meth c T locs cells slots) (hx : p.tables.exec = Jvm.exec) (hZ : Z.Warmed39 s.vm) {h : Heap} (eT : T.heap = h) {a0 : Array Value} (w : (Cond.arrayClass .int).before a0 Z = true) {g : JFrame} (hg : g.method = m) (hd : decode c.code g.pc = .ok (.newarray .int, 2)) {n : Int32} {rest : List Value} (hs : g.stack = .int n :: rest) (hn : ¬ n < 0) {k : Nat} (hk : n.toNatClampNeg = k) (hb : k * 8 ≤ 536870912) (hc : cells + 1 ≤ R.cells) (hl : slots + k ≤ R.slots) :
    ∃ (T' : State) (h' : Heap), Stand p l e R s m args below meth c T' locs (cells + 1) (slots + k) ∧ T'.heap = h' ∧ Ext h h' ∧ own_A Z h' h.size k (fun _ => 0) ∧ ∀ target, Steps p.tables e below (T'.setTop { g with pc := g.pc + 2, stack := .ref h.size :: rest }) target → Steps p.tables e below (T.setTop g) target := by
  obtain ⟨T', h', cA, X', e', E', A', st⟩ := newP X hx hZ (aty := .int) w eT hg hd hs hn (cap := k) (Nat.le_of_eq hk) hb hc hl
  refine ⟨T', h', X', e', E', ⟨_, A', by rw [sz_new]; exact hk, fun j hj => ?_⟩, st⟩
  show (Array.replicate n.toNatClampNeg (defaultValue .int))[j]? = _
  rw [hk, Array.getElem?_replicate, if_pos hj]
  rfl
theorem own_idx (y : Int32) : ¬ ((y &&& (2147483647 : Int32)) - (y &&& (2147483647 : Int32)) / (31 : Int32) * (31 : Int32)) < 0 ∧ ((y &&& (2147483647 : Int32)) - (y &&& (2147483647 : Int32)) / (31 : Int32) * (31 : Int32)).toNatClampNeg < 31 := by
  have e1 : (y &&& 2147483647).toInt = y.toInt % 2 ^ 31 := Jvm.Kit.i32_mask y 2147483647 (k := 31) (by decide) (by decide)
  generalize (y &&& 2147483647) = w at *
  have e2 : (w / 31).toInt = w.toInt / 31 := by
    have h1 : (w / 31).toInt = w.toInt.tdiv (31 : Int32).toInt := Jvm.Kit.i32_div (by intro q; omega)
    rw [h1]
    exact Int.tdiv_eq_ediv_of_nonneg (by omega)
  have e3 : (w / 31 * 31).toInt = (w / 31).toInt * 31 := Jvm.Kit.i32_mul (p := w / 31) (q := 31) (by rw [show (31 : Int32).toInt = 31 from rfl, e2]; omega) (by rw [show (31 : Int32).toInt = 31 from rfl, e2]; omega)
  have e4 : (w - w / 31 * 31).toInt = w.toInt - (w / 31 * 31).toInt := Jvm.Kit.i32_sub (by rw [e3, e2]; omega) (by rw [e3, e2]; omega)
  rw [Int32.lt_iff_toInt_lt, Int32.toNatClampNeg, e4, e3, e2, show (0 : Int32).toInt = 0 from rfl]
  omega
theorem pn_0 : plainName "com/example/libxdm/libxdm/model/XmlNamesIsNameStartPinLaw" = true := by first | (simp [plainName, overriddenIn]; done) | decide +kernel
theorem pd_0_0 : parseMethodDescriptor "(I)Z" = some ⟨[.int], some .boolean⟩ := by decide +kernel
theorem ef_0 (m : MethodId) (x0 : Int32) (x1 : Int32) : entryFrame m #[(.int x0), (.int x1)] maxLocals = mkF m 0 #[.val (.int x0), .val (.int x1), .unset, .unset, .unset, .unset, .unset] [] := by first | (simp [entryFrame, mkF, argsToLocals, Value.category, maxLocals]; done) | rfl
set_option maxRecDepth 65536 in
set_option maxHeartbeats 40000000 in
theorem tail0 {p : Program} {l : Launch} {e : Env} {s : State} {m : MethodId} {args : Array Value} {below : List Frame} {meth : Method} {c : Code} {T : State} {locs : List Loc} {cells slots : Nat} {Z : State} {a0 : Array Value} (X : Stand p l e room_1 s m args below meth c T locs cells slots) (hx : p.tables.exec = Jvm.exec) (hZ : Z.Warmed39 s.vm) (hw : ∀ d ∈ tables_1, d.before a0 Z = true) (hby : c.code = code) (hml : c.maxLocals = 7) (hown : s.vm.findClass "com/example/libxdm/libxdm/model/XmlNamesIsNameStartPinLaw" = some m.cls) (hret : meth.sig.returnType = some .boolean) (hlk : meth.locks = false) (h : Heap) (eT : T.heap = h) (n0 : Nat) (N0 : Fr n0 locs) (hcl : cells ≤ room_1.cells) (hsl : slots ≤ room_1.slots) (s0 : Slot) (s1 : Slot) (s2 : Slot) (s4 : Slot) (s5 : Slot) (s6 : Slot) (cc : Int32) :
    ∃ (u : State) (L : List Loc), Steps p.tables e below (T.setTop (mkF m 269 #[s0, s1, s2, .val (.int cc), s4, s5, s6] [])) u ∧ u.status = .running ∧ Ended u below (.returned (some (.int (1 : Int32)))) ∧ s.WarmedH u.vm ∧ s.sameButNew ({ u with vm := s.vm } : State) L cells slots ∧ Fr n0 L := by
  obtain ⟨_, _, ⟨T3, L3, k3, n3⟩, -, X3, ⟨Lc3, hQ3, l3, y3, z3⟩, st3⟩ := Jvm.LawKit.callS X hx (y := (⟨"com/example/libxdm/libxdm/model/XmlNames", "isNameStart", "(I)Z"⟩ : MethodName)) hown (mvT hZ (hw _ (List.mem_of_getElem? (i := 11) rfl))) (mvT hZ (hw _ (List.mem_of_getElem? (i := 12) rfl))) (mvT hZ (hw _ (List.mem_of_getElem? (i := 13) rfl))) (mvT hZ (hw _ (List.mem_of_getElem? (i := 14) rfl))) (by decide) (backOf (W := 0) (rm1 l Z a0 hw [] cc h n0) hZ (hw _ (List.mem_of_getElem? (i := 14) rfl)) (hw _ (List.mem_of_getElem? (i := 13) rfl)) (by decide) (by decide)) (g := (mkF m 270 #[s0, s1, s2, .val (.int cc), s4, s5, s6] [(.int cc)])) rfl (by rw [hml]; rfl) (argsL := [(.int cc)]) (rest := []) (lenOf pd_0_0 rfl) rfl (by show 2 * 0 + _ ≤ _; exact Nat.le_of_eq rfl) (hb hby at_270) (fun _ _ => ⟨rfl, eT, hcl, hsl⟩)
  dsimp only [Pt.U, Pt.locs, Pt.cells, Pt.slots] at X3 l3 y3 z3 st3 hQ3
  subst l3 y3 z3
  obtain ⟨rfl, N3q, e3⟩ := hQ3
  obtain ⟨_, _, ⟨T4, L4, k4, n4⟩, -, X4, ⟨Lc4, hQ4, l4, y4, z4⟩, st4⟩ := Jvm.LawKit.callS X3 hx (y := (⟨"com/example/libxdm/libxdm/model/XmlNamesIsNameStartPinLaw", "ref", "(I)Z"⟩ : MethodName)) hown (mvT hZ (hw _ (List.mem_of_getElem? (i := 18) rfl))) (mvT hZ (hw _ (List.mem_of_getElem? (i := 19) rfl))) (mvT hZ (hw _ (List.mem_of_getElem? (i := 20) rfl))) (mvT hZ (hw _ (List.mem_of_getElem? (i := 21) rfl))) (by decide) (backOf (W := 1) (rm2 l Z a0 hw [] cc h n0) hZ (hw _ (List.mem_of_getElem? (i := 21) rfl)) (hw _ (List.mem_of_getElem? (i := 20) rfl)) (by decide) (by decide)) (g := (mkF m 274 #[s0, s1, s2, .val (.int cc), s4, s5, s6] [(.int cc), (.int (v1_0 cc))])) rfl (by rw [hml]; rfl) (argsL := [(.int cc)]) (rest := [(.int (v1_0 cc))]) (lenOf pd_0_0 rfl) rfl (by show 2 * 0 + _ ≤ _; exact Nat.le_of_eq rfl) (hb hby at_274) (fun _ _ => ⟨rfl, e3, hcl, hsl⟩)
  dsimp only [Pt.U, Pt.locs, Pt.cells, Pt.slots] at X4 l4 y4 z4 st4 hQ4
  subst l4 y4 z4
  obtain ⟨rfl, N4q, e4⟩ := hQ4
  have N4 := Fr.app (Fr.app N0 N3q) N4q
  obtain ⟨fs, hr, hrun, hended, hW, hsame⟩ := X4.leave (v := some (.int (1 : Int32))) (fun h => by rw [hret] at h; cases h)
  refine ⟨_, _, ?_, hrun, hended, hW, hsame, N4⟩
  show Steps p.tables e below (T.setTop (mkF m 269 #[s0, s1, s2, .val (.int cc), s4, s5, s6] [])) _
  refine XS.iloadN X.here hx rfl (hb hby at_269) rfl ?_
  show Steps p.tables e below (T.setTop (mkF m 270 #[s0, s1, s2, .val (.int cc), s4, s5, s6] [(.int cc)])) _
  refine st3 _ ?_
  show Steps p.tables e below (T3.setTop (mkF m 273 #[s0, s1, s2, .val (.int cc), s4, s5, s6] [(.int (v1_0 cc))])) _
  refine XS.iloadN X3.here hx rfl (hb hby at_273) rfl ?_
  show Steps p.tables e below (T3.setTop (mkF m 274 #[s0, s1, s2, .val (.int cc), s4, s5, s6] [(.int cc), (.int (v1_0 cc))])) _
  refine st4 _ ?_
  show Steps p.tables e below (T4.setTop (mkF m 277 #[s0, s1, s2, .val (.int cc), s4, s5, s6] [(.int (v2_0 cc)), (.int (v1_0 cc))])) _
  refine XS.icmpNo X4.here hx rfl (hb hby at_277) rfl (teq (own_same cc)).2 ?_
  show Steps p.tables e below (T4.setTop (mkF m 280 #[s0, s1, s2, .val (.int cc), s4, s5, s6] [])) _
  refine XS.iconst X4.here hx rfl (hb hby at_280) ?_
  show Steps p.tables e below (T4.setTop (mkF m 281 #[s0, s1, s2, .val (.int cc), s4, s5, s6] [(.int (1 : Int32))])) _
  refine XS.goto X4.here hx rfl (pc0 := 281) (pc' := 285) rfl (hb hby at_281) (by decide) (by decide) ?_
  show Steps p.tables e below (T4.setTop (mkF m 285 #[s0, s1, s2, .val (.int cc), s4, s5, s6] [(.int (1 : Int32))])) _
  exact retN X4 hx (t := .boolean) hret (by simp) (hb hby at_285) hr
def Q0 (h0 : Heap) (n0 : Nat) (v : Option Value) (h : Heap) (L : List Loc) : Prop := v = some (.int (1 : Int32)) ∧ Fr n0 L
set_option maxRecDepth 65536 in
set_option maxHeartbeats 40000000 in
theorem rm0 (l : Launch) (Z : State) (a0 : Array Value) (hw : ∀ d ∈ tables_1, d.before a0 Z = true) (ws : List Jvm.Cond) (p1 : Int32) (p2 : Int32) (h0 : Heap) (n0 : Nat) (Z0 : n0 ≤ h0.size) :
    MetFree l x (head1 (Jvm.Cond.code x code maxLocals ret :: ws) room_1) (fun a U => a = #[(.int p1), (.int p2)] ∧ Z.Warmed39 U.vm ∧ U.heap = h0) (fun _ _ _ _ _ => True) (fun _ U o U' => ∃ v L, o = .returned v ∧ Q0 h0 n0 v U'.heap L ∧ FrameEnd U o U' L room_1.cells room_1.slots) := by
  refine MetFree.of_bodySF (plainFor_of_name pn_0) hisR ?_
  intro p e s m args below meth c s₁ Bd hml0 hP hK
  obtain ⟨rfl, hZ, hh⟩ := hP
  have hx := Bd.exec
  have hby := Bd.bytes
  have hlk := Bd.notSynchronized
  have hret : meth.sig.returnType = some .boolean := Bd.returns
  have hml : c.maxLocals = 7 := hml0
  have hown : s.vm.findClass "com/example/libxdm/libxdm/model/XmlNamesIsNameStartPinLaw" = some m.cls := findClass_of_methodNamed Bd.named
  have X0 : Stand p l e room_1 s m #[(.int p1), (.int p2)] below meth c s₁ [] 0 0 := Stand.of_body Bd
  have e0 : s₁.heap = h0 := by rw [← hh, Bd.state]; rfl
  have N0 := Fr.nil n0
  have pre0 : ∀ t, Steps p.tables e below (s₁.setTop (mkF m 0 #[.val (.int p1), .val (.int p2), .unset, .unset, .unset, .unset, .unset] [])) t → Steps p.tables e below (s₁.setTop (entryFrame m #[(.int p1), (.int p2)] maxLocals)) t := fun t k => castTop (ef_0 m p1 p2) k
  by_cases hc1 : (p2 &&& (3 : Int32)) = (0 : Int32)
  · obtain ⟨u, L, st, hrun, hended, hW, hsame, N⟩ := tail0 X0 hx hZ hw hby hml hown hret hlk h0 e0 n0 N0 (by decide) (by decide) (.val (.int p1)) (.val (.int p2)) (.val (.int (p2 &&& (3 : Int32)))) (.unset) (.unset) (.unset) p1
    refine ⟨_, _, pre0 _ ?_, hrun, hended, _, _, rfl, ⟨rfl, N⟩, ⟨_, rfl⟩, hW, hsame.mono (by decide) (by decide)⟩
    show Steps p.tables e below (s₁.setTop (mkF m 0 #[.val (.int p1), .val (.int p2), .unset, .unset, .unset, .unset, .unset] [])) _
    refine XS.iloadN X0.here hx rfl (hb hby at_0) rfl ?_
    show Steps p.tables e below (s₁.setTop (mkF m 1 #[.val (.int p1), .val (.int p2), .unset, .unset, .unset, .unset, .unset] [(.int p2)])) _
    refine XS.iconst X0.here hx rfl (hb hby at_1) ?_
    show Steps p.tables e below (s₁.setTop (mkF m 2 #[.val (.int p1), .val (.int p2), .unset, .unset, .unset, .unset, .unset] [(.int (3 : Int32)), (.int p2)])) _
    refine XS.iand X0.here hx rfl (hb hby at_2) rfl ?_
    show Steps p.tables e below (s₁.setTop (mkF m 3 #[.val (.int p1), .val (.int p2), .unset, .unset, .unset, .unset, .unset] [(.int (p2 &&& (3 : Int32)))])) _
    refine XS.istoreN X0.here hx rfl (hb hby at_3) rfl (l' := #[.val (.int p1), .val (.int p2), .val (.int (p2 &&& (3 : Int32))), .unset, .unset, .unset, .unset]) rfl ?_
    show Steps p.tables e below (s₁.setTop (mkF m 4 #[.val (.int p1), .val (.int p2), .val (.int (p2 &&& (3 : Int32))), .unset, .unset, .unset, .unset] [])) _
    refine XS.iloadN X0.here hx rfl (hb hby at_4) rfl ?_
    show Steps p.tables e below (s₁.setTop (mkF m 5 #[.val (.int p1), .val (.int p2), .val (.int (p2 &&& (3 : Int32))), .unset, .unset, .unset, .unset] [(.int (p2 &&& (3 : Int32)))])) _
    refine XS.ifNo X0.here hx rfl (hb hby at_5) rfl ((if0 _ _).trans (teq hc1).2) ?_
    show Steps p.tables e below (s₁.setTop (mkF m 8 #[.val (.int p1), .val (.int p2), .val (.int (p2 &&& (3 : Int32))), .unset, .unset, .unset, .unset] [])) _
    refine XS.iloadN X0.here hx rfl (hb hby at_8) rfl ?_
    show Steps p.tables e below (s₁.setTop (mkF m 9 #[.val (.int p1), .val (.int p2), .val (.int (p2 &&& (3 : Int32))), .unset, .unset, .unset, .unset] [(.int p1)])) _
    refine XS.istoreN X0.here hx rfl (hb hby at_9) rfl (l' := #[.val (.int p1), .val (.int p2), .val (.int (p2 &&& (3 : Int32))), .val (.int p1), .unset, .unset, .unset]) rfl ?_
    show Steps p.tables e below (s₁.setTop (mkF m 10 #[.val (.int p1), .val (.int p2), .val (.int (p2 &&& (3 : Int32))), .val (.int p1), .unset, .unset, .unset] [])) _
    refine XS.goto X0.here hx rfl (pc0 := 10) (pc' := 269) rfl (hb hby at_10) (by decide) (by decide) ?_
    show Steps p.tables e below (s₁.setTop (mkF m 269 #[.val (.int p1), .val (.int p2), .val (.int (p2 &&& (3 : Int32))), .val (.int p1), .unset, .unset, .unset] [])) _
    exact st
  · by_cases hc2 : (p2 &&& (3 : Int32)) = (1 : Int32)
    · obtain ⟨u, L, st, hrun, hended, hW, hsame, N⟩ := tail0 X0 hx hZ hw hby hml hown hret hlk h0 e0 n0 N0 (by decide) (by decide) (.val (.int p1)) (.val (.int p2)) (.val (.int (p2 &&& (3 : Int32)))) (.unset) (.unset) (.unset) (p1 &&& (65535 : Int32))
      refine ⟨_, _, pre0 _ ?_, hrun, hended, _, _, rfl, ⟨rfl, N⟩, ⟨_, rfl⟩, hW, hsame.mono (by decide) (by decide)⟩
      show Steps p.tables e below (s₁.setTop (mkF m 0 #[.val (.int p1), .val (.int p2), .unset, .unset, .unset, .unset, .unset] [])) _
      refine XS.iloadN X0.here hx rfl (hb hby at_0) rfl ?_
      show Steps p.tables e below (s₁.setTop (mkF m 1 #[.val (.int p1), .val (.int p2), .unset, .unset, .unset, .unset, .unset] [(.int p2)])) _
      refine XS.iconst X0.here hx rfl (hb hby at_1) ?_
      show Steps p.tables e below (s₁.setTop (mkF m 2 #[.val (.int p1), .val (.int p2), .unset, .unset, .unset, .unset, .unset] [(.int (3 : Int32)), (.int p2)])) _
      refine XS.iand X0.here hx rfl (hb hby at_2) rfl ?_
      show Steps p.tables e below (s₁.setTop (mkF m 3 #[.val (.int p1), .val (.int p2), .unset, .unset, .unset, .unset, .unset] [(.int (p2 &&& (3 : Int32)))])) _
      refine XS.istoreN X0.here hx rfl (hb hby at_3) rfl (l' := #[.val (.int p1), .val (.int p2), .val (.int (p2 &&& (3 : Int32))), .unset, .unset, .unset, .unset]) rfl ?_
      show Steps p.tables e below (s₁.setTop (mkF m 4 #[.val (.int p1), .val (.int p2), .val (.int (p2 &&& (3 : Int32))), .unset, .unset, .unset, .unset] [])) _
      refine XS.iloadN X0.here hx rfl (hb hby at_4) rfl ?_
      show Steps p.tables e below (s₁.setTop (mkF m 5 #[.val (.int p1), .val (.int p2), .val (.int (p2 &&& (3 : Int32))), .unset, .unset, .unset, .unset] [(.int (p2 &&& (3 : Int32)))])) _
      refine XS.ifYes X0.here hx rfl (pc0 := 5) (pc' := 13) rfl (hb hby at_5) rfl ((if0 _ _).trans (feq hc1).2) (by decide) (by decide) ?_
      show Steps p.tables e below (s₁.setTop (mkF m 13 #[.val (.int p1), .val (.int p2), .val (.int (p2 &&& (3 : Int32))), .unset, .unset, .unset, .unset] [])) _
      refine XS.iloadN X0.here hx rfl (hb hby at_13) rfl ?_
      show Steps p.tables e below (s₁.setTop (mkF m 14 #[.val (.int p1), .val (.int p2), .val (.int (p2 &&& (3 : Int32))), .unset, .unset, .unset, .unset] [(.int (p2 &&& (3 : Int32)))])) _
      refine XS.iconst X0.here hx rfl (hb hby at_14) ?_
      show Steps p.tables e below (s₁.setTop (mkF m 15 #[.val (.int p1), .val (.int p2), .val (.int (p2 &&& (3 : Int32))), .unset, .unset, .unset, .unset] [(.int (1 : Int32)), (.int (p2 &&& (3 : Int32)))])) _
      refine XS.icmpNo X0.here hx rfl (hb hby at_15) rfl (teq hc2).2 ?_
      show Steps p.tables e below (s₁.setTop (mkF m 18 #[.val (.int p1), .val (.int p2), .val (.int (p2 &&& (3 : Int32))), .unset, .unset, .unset, .unset] [])) _
      refine XS.iloadN X0.here hx rfl (hb hby at_18) rfl ?_
      show Steps p.tables e below (s₁.setTop (mkF m 19 #[.val (.int p1), .val (.int p2), .val (.int (p2 &&& (3 : Int32))), .unset, .unset, .unset, .unset] [(.int p1)])) _
      refine X0.ldcI hx hown (v := (65535 : Int32)) (mvT hZ (hw _ (List.mem_of_getElem? (i := 22) rfl))) rfl (hb hby at_19) ?_
      show Steps p.tables e below (s₁.setTop (mkF m 21 #[.val (.int p1), .val (.int p2), .val (.int (p2 &&& (3 : Int32))), .unset, .unset, .unset, .unset] [(.int (65535 : Int32)), (.int p1)])) _
      refine XS.iand X0.here hx rfl (hb hby at_21) rfl ?_
      show Steps p.tables e below (s₁.setTop (mkF m 22 #[.val (.int p1), .val (.int p2), .val (.int (p2 &&& (3 : Int32))), .unset, .unset, .unset, .unset] [(.int (p1 &&& (65535 : Int32)))])) _
      refine XS.istoreN X0.here hx rfl (hb hby at_22) rfl (l' := #[.val (.int p1), .val (.int p2), .val (.int (p2 &&& (3 : Int32))), .val (.int (p1 &&& (65535 : Int32))), .unset, .unset, .unset]) rfl ?_
      show Steps p.tables e below (s₁.setTop (mkF m 23 #[.val (.int p1), .val (.int p2), .val (.int (p2 &&& (3 : Int32))), .val (.int (p1 &&& (65535 : Int32))), .unset, .unset, .unset] [])) _
      refine XS.goto X0.here hx rfl (pc0 := 23) (pc' := 269) rfl (hb hby at_23) (by decide) (by decide) ?_
      show Steps p.tables e below (s₁.setTop (mkF m 269 #[.val (.int p1), .val (.int p2), .val (.int (p2 &&& (3 : Int32))), .val (.int (p1 &&& (65535 : Int32))), .unset, .unset, .unset] [])) _
      exact st
    · by_cases hc3 : (p2 &&& (3 : Int32)) = (2 : Int32)
      · obtain ⟨u, L, st, hrun, hended, hW, hsame, N⟩ := tail0 X0 hx hZ hw hby hml hown hret hlk h0 e0 n0 N0 (by decide) (by decide) (.val (.int p1)) (.val (.int p2)) (.val (.int (p2 &&& (3 : Int32)))) (.unset) (.unset) (.unset) (p1 &&& (1048575 : Int32))
        refine ⟨_, _, pre0 _ ?_, hrun, hended, _, _, rfl, ⟨rfl, N⟩, ⟨_, rfl⟩, hW, hsame.mono (by decide) (by decide)⟩
        show Steps p.tables e below (s₁.setTop (mkF m 0 #[.val (.int p1), .val (.int p2), .unset, .unset, .unset, .unset, .unset] [])) _
        refine XS.iloadN X0.here hx rfl (hb hby at_0) rfl ?_
        show Steps p.tables e below (s₁.setTop (mkF m 1 #[.val (.int p1), .val (.int p2), .unset, .unset, .unset, .unset, .unset] [(.int p2)])) _
        refine XS.iconst X0.here hx rfl (hb hby at_1) ?_
        show Steps p.tables e below (s₁.setTop (mkF m 2 #[.val (.int p1), .val (.int p2), .unset, .unset, .unset, .unset, .unset] [(.int (3 : Int32)), (.int p2)])) _
        refine XS.iand X0.here hx rfl (hb hby at_2) rfl ?_
        show Steps p.tables e below (s₁.setTop (mkF m 3 #[.val (.int p1), .val (.int p2), .unset, .unset, .unset, .unset, .unset] [(.int (p2 &&& (3 : Int32)))])) _
        refine XS.istoreN X0.here hx rfl (hb hby at_3) rfl (l' := #[.val (.int p1), .val (.int p2), .val (.int (p2 &&& (3 : Int32))), .unset, .unset, .unset, .unset]) rfl ?_
        show Steps p.tables e below (s₁.setTop (mkF m 4 #[.val (.int p1), .val (.int p2), .val (.int (p2 &&& (3 : Int32))), .unset, .unset, .unset, .unset] [])) _
        refine XS.iloadN X0.here hx rfl (hb hby at_4) rfl ?_
        show Steps p.tables e below (s₁.setTop (mkF m 5 #[.val (.int p1), .val (.int p2), .val (.int (p2 &&& (3 : Int32))), .unset, .unset, .unset, .unset] [(.int (p2 &&& (3 : Int32)))])) _
        refine XS.ifYes X0.here hx rfl (pc0 := 5) (pc' := 13) rfl (hb hby at_5) rfl ((if0 _ _).trans (feq hc1).2) (by decide) (by decide) ?_
        show Steps p.tables e below (s₁.setTop (mkF m 13 #[.val (.int p1), .val (.int p2), .val (.int (p2 &&& (3 : Int32))), .unset, .unset, .unset, .unset] [])) _
        refine XS.iloadN X0.here hx rfl (hb hby at_13) rfl ?_
        show Steps p.tables e below (s₁.setTop (mkF m 14 #[.val (.int p1), .val (.int p2), .val (.int (p2 &&& (3 : Int32))), .unset, .unset, .unset, .unset] [(.int (p2 &&& (3 : Int32)))])) _
        refine XS.iconst X0.here hx rfl (hb hby at_14) ?_
        show Steps p.tables e below (s₁.setTop (mkF m 15 #[.val (.int p1), .val (.int p2), .val (.int (p2 &&& (3 : Int32))), .unset, .unset, .unset, .unset] [(.int (1 : Int32)), (.int (p2 &&& (3 : Int32)))])) _
        refine XS.icmpYes X0.here hx rfl (pc0 := 15) (pc' := 26) rfl (hb hby at_15) rfl (feq hc2).2 (by decide) (by decide) ?_
        show Steps p.tables e below (s₁.setTop (mkF m 26 #[.val (.int p1), .val (.int p2), .val (.int (p2 &&& (3 : Int32))), .unset, .unset, .unset, .unset] [])) _
        refine XS.iloadN X0.here hx rfl (hb hby at_26) rfl ?_
        show Steps p.tables e below (s₁.setTop (mkF m 27 #[.val (.int p1), .val (.int p2), .val (.int (p2 &&& (3 : Int32))), .unset, .unset, .unset, .unset] [(.int (p2 &&& (3 : Int32)))])) _
        refine XS.iconst X0.here hx rfl (hb hby at_27) ?_
        show Steps p.tables e below (s₁.setTop (mkF m 28 #[.val (.int p1), .val (.int p2), .val (.int (p2 &&& (3 : Int32))), .unset, .unset, .unset, .unset] [(.int (2 : Int32)), (.int (p2 &&& (3 : Int32)))])) _
        refine XS.icmpNo X0.here hx rfl (hb hby at_28) rfl (teq hc3).2 ?_
        show Steps p.tables e below (s₁.setTop (mkF m 31 #[.val (.int p1), .val (.int p2), .val (.int (p2 &&& (3 : Int32))), .unset, .unset, .unset, .unset] [])) _
        refine XS.iloadN X0.here hx rfl (hb hby at_31) rfl ?_
        show Steps p.tables e below (s₁.setTop (mkF m 32 #[.val (.int p1), .val (.int p2), .val (.int (p2 &&& (3 : Int32))), .unset, .unset, .unset, .unset] [(.int p1)])) _
        refine X0.ldcI hx hown (v := (1048575 : Int32)) (mvT hZ (hw _ (List.mem_of_getElem? (i := 31) rfl))) rfl (hb hby at_32) ?_
        show Steps p.tables e below (s₁.setTop (mkF m 34 #[.val (.int p1), .val (.int p2), .val (.int (p2 &&& (3 : Int32))), .unset, .unset, .unset, .unset] [(.int (1048575 : Int32)), (.int p1)])) _
        refine XS.iand X0.here hx rfl (hb hby at_34) rfl ?_
        show Steps p.tables e below (s₁.setTop (mkF m 35 #[.val (.int p1), .val (.int p2), .val (.int (p2 &&& (3 : Int32))), .unset, .unset, .unset, .unset] [(.int (p1 &&& (1048575 : Int32)))])) _
        refine XS.istoreN X0.here hx rfl (hb hby at_35) rfl (l' := #[.val (.int p1), .val (.int p2), .val (.int (p2 &&& (3 : Int32))), .val (.int (p1 &&& (1048575 : Int32))), .unset, .unset, .unset]) rfl ?_
        show Steps p.tables e below (s₁.setTop (mkF m 36 #[.val (.int p1), .val (.int p2), .val (.int (p2 &&& (3 : Int32))), .val (.int (p1 &&& (1048575 : Int32))), .unset, .unset, .unset] [])) _
        refine XS.goto X0.here hx rfl (pc0 := 36) (pc' := 269) rfl (hb hby at_36) (by decide) (by decide) ?_
        show Steps p.tables e below (s₁.setTop (mkF m 269 #[.val (.int p1), .val (.int p2), .val (.int (p2 &&& (3 : Int32))), .val (.int (p1 &&& (1048575 : Int32))), .unset, .unset, .unset] [])) _
        exact st
      · obtain ⟨T4, h4, X4, e4, E4, A4, st4⟩ := own_new X0 hx hZ e0 (hw _ (List.mem_of_getElem? (i := 0) rfl)) (g := (mkF m 41 #[.val (.int p1), .val (.int p2), .val (.int (p2 &&& (3 : Int32))), .unset, .unset, .unset, .unset] [(.int (31 : Int32))])) rfl (hb hby at_41) rfl (by decide) (k := 31) (by decide) (by decide) (by decide) (by decide)
        obtain ⟨a4, g4⟩ : ∃ z, z = h0.size := ⟨_, rfl⟩
        rw [← g4] at A4 st4
        have ga4 : n0 ≤ a4 := by rw [g4]; exact Z0
        have Z4 : n0 ≤ h4.size := Nat.le_trans Z0 E4.1
        obtain ⟨T5, h5, L5, X5, e5, N5, A5, K5, st5⟩ := own_put X4 hx hZ e4 A4 N0 ga4 (by decide) (by decide) (g := (mkF m 47 #[.val (.int p1), .val (.int p2), .val (.int (p2 &&& (3 : Int32))), .unset, .unset, .unset, .unset] [(.int (65 : Int32)), (.int (0 : Int32)), (.ref a4), (.ref a4)])) rfl rfl (hb hby at_47)
        have Z5 : n0 ≤ h5.size := Nat.le_trans Z4 K5.1
        obtain ⟨T6, h6, L6, X6, e6, N6, A6, K6, st6⟩ := own_put X5 hx hZ e5 A5 N5 ga4 (by decide) (by decide) (g := (mkF m 52 #[.val (.int p1), .val (.int p2), .val (.int (p2 &&& (3 : Int32))), .unset, .unset, .unset, .unset] [(.int (90 : Int32)), (.int (1 : Int32)), (.ref a4), (.ref a4)])) rfl rfl (hb hby at_52)
        have Z6 : n0 ≤ h6.size := Nat.le_trans Z5 K6.1
        obtain ⟨T7, h7, L7, X7, e7, N7, A7, K7, st7⟩ := own_put X6 hx hZ e6 A6 N6 ga4 (by decide) (by decide) (g := (mkF m 57 #[.val (.int p1), .val (.int p2), .val (.int (p2 &&& (3 : Int32))), .unset, .unset, .unset, .unset] [(.int (97 : Int32)), (.int (2 : Int32)), (.ref a4), (.ref a4)])) rfl rfl (hb hby at_57)
        have Z7 : n0 ≤ h7.size := Nat.le_trans Z6 K7.1
        obtain ⟨T8, h8, L8, X8, e8, N8, A8, K8, st8⟩ := own_put X7 hx hZ e7 A7 N7 ga4 (by decide) (by decide) (g := (mkF m 62 #[.val (.int p1), .val (.int p2), .val (.int (p2 &&& (3 : Int32))), .unset, .unset, .unset, .unset] [(.int (122 : Int32)), (.int (3 : Int32)), (.ref a4), (.ref a4)])) rfl rfl (hb hby at_62)
        have Z8 : n0 ≤ h8.size := Nat.le_trans Z7 K8.1
        obtain ⟨T9, h9, L9, X9, e9, N9, A9, K9, st9⟩ := own_put X8 hx hZ e8 A8 N8 ga4 (by decide) (by decide) (g := (mkF m 67 #[.val (.int p1), .val (.int p2), .val (.int (p2 &&& (3 : Int32))), .unset, .unset, .unset, .unset] [(.int (95 : Int32)), (.int (4 : Int32)), (.ref a4), (.ref a4)])) rfl rfl (hb hby at_67)
        have Z9 : n0 ≤ h9.size := Nat.le_trans Z8 K9.1
        obtain ⟨T10, h10, L10, X10, e10, N10, A10, K10, st10⟩ := own_put X9 hx hZ e9 A9 N9 ga4 (by decide) (by decide) (g := (mkF m 73 #[.val (.int p1), .val (.int p2), .val (.int (p2 &&& (3 : Int32))), .unset, .unset, .unset, .unset] [(.int (192 : Int32)), (.int (5 : Int32)), (.ref a4), (.ref a4)])) rfl rfl (hb hby at_73)
        have Z10 : n0 ≤ h10.size := Nat.le_trans Z9 K10.1
        obtain ⟨T11, h11, L11, X11, e11, N11, A11, K11, st11⟩ := own_put X10 hx hZ e10 A10 N10 ga4 (by decide) (by decide) (g := (mkF m 80 #[.val (.int p1), .val (.int p2), .val (.int (p2 &&& (3 : Int32))), .unset, .unset, .unset, .unset] [(.int (214 : Int32)), (.int (6 : Int32)), (.ref a4), (.ref a4)])) rfl rfl (hb hby at_80)
        have Z11 : n0 ≤ h11.size := Nat.le_trans Z10 K11.1
        obtain ⟨T12, h12, L12, X12, e12, N12, A12, K12, st12⟩ := own_put X11 hx hZ e11 A11 N11 ga4 (by decide) (by decide) (g := (mkF m 87 #[.val (.int p1), .val (.int p2), .val (.int (p2 &&& (3 : Int32))), .unset, .unset, .unset, .unset] [(.int (216 : Int32)), (.int (7 : Int32)), (.ref a4), (.ref a4)])) rfl rfl (hb hby at_87)
        have Z12 : n0 ≤ h12.size := Nat.le_trans Z11 K12.1
        obtain ⟨T13, h13, L13, X13, e13, N13, A13, K13, st13⟩ := own_put X12 hx hZ e12 A12 N12 ga4 (by decide) (by decide) (g := (mkF m 94 #[.val (.int p1), .val (.int p2), .val (.int (p2 &&& (3 : Int32))), .unset, .unset, .unset, .unset] [(.int (246 : Int32)), (.int (8 : Int32)), (.ref a4), (.ref a4)])) rfl rfl (hb hby at_94)
        have Z13 : n0 ≤ h13.size := Nat.le_trans Z12 K13.1
        obtain ⟨T14, h14, L14, X14, e14, N14, A14, K14, st14⟩ := own_put X13 hx hZ e13 A13 N13 ga4 (by decide) (by decide) (g := (mkF m 101 #[.val (.int p1), .val (.int p2), .val (.int (p2 &&& (3 : Int32))), .unset, .unset, .unset, .unset] [(.int (248 : Int32)), (.int (9 : Int32)), (.ref a4), (.ref a4)])) rfl rfl (hb hby at_101)
        have Z14 : n0 ≤ h14.size := Nat.le_trans Z13 K14.1
        obtain ⟨T15, h15, L15, X15, e15, N15, A15, K15, st15⟩ := own_put X14 hx hZ e14 A14 N14 ga4 (by decide) (by decide) (g := (mkF m 108 #[.val (.int p1), .val (.int p2), .val (.int (p2 &&& (3 : Int32))), .unset, .unset, .unset, .unset] [(.int (767 : Int32)), (.int (10 : Int32)), (.ref a4), (.ref a4)])) rfl rfl (hb hby at_108)
        have Z15 : n0 ≤ h15.size := Nat.le_trans Z14 K15.1
        obtain ⟨T16, h16, L16, X16, e16, N16, A16, K16, st16⟩ := own_put X15 hx hZ e15 A15 N15 ga4 (by decide) (by decide) (g := (mkF m 115 #[.val (.int p1), .val (.int p2), .val (.int (p2 &&& (3 : Int32))), .unset, .unset, .unset, .unset] [(.int (880 : Int32)), (.int (11 : Int32)), (.ref a4), (.ref a4)])) rfl rfl (hb hby at_115)
        have Z16 : n0 ≤ h16.size := Nat.le_trans Z15 K16.1
        obtain ⟨T17, h17, L17, X17, e17, N17, A17, K17, st17⟩ := own_put X16 hx hZ e16 A16 N16 ga4 (by decide) (by decide) (g := (mkF m 122 #[.val (.int p1), .val (.int p2), .val (.int (p2 &&& (3 : Int32))), .unset, .unset, .unset, .unset] [(.int (893 : Int32)), (.int (12 : Int32)), (.ref a4), (.ref a4)])) rfl rfl (hb hby at_122)
        have Z17 : n0 ≤ h17.size := Nat.le_trans Z16 K17.1
        obtain ⟨T18, h18, L18, X18, e18, N18, A18, K18, st18⟩ := own_put X17 hx hZ e17 A17 N17 ga4 (by decide) (by decide) (g := (mkF m 129 #[.val (.int p1), .val (.int p2), .val (.int (p2 &&& (3 : Int32))), .unset, .unset, .unset, .unset] [(.int (895 : Int32)), (.int (13 : Int32)), (.ref a4), (.ref a4)])) rfl rfl (hb hby at_129)
        have Z18 : n0 ≤ h18.size := Nat.le_trans Z17 K18.1
        obtain ⟨T19, h19, L19, X19, e19, N19, A19, K19, st19⟩ := own_put X18 hx hZ e18 A18 N18 ga4 (by decide) (by decide) (g := (mkF m 136 #[.val (.int p1), .val (.int p2), .val (.int (p2 &&& (3 : Int32))), .unset, .unset, .unset, .unset] [(.int (8191 : Int32)), (.int (14 : Int32)), (.ref a4), (.ref a4)])) rfl rfl (hb hby at_136)
        have Z19 : n0 ≤ h19.size := Nat.le_trans Z18 K19.1
        obtain ⟨T20, h20, L20, X20, e20, N20, A20, K20, st20⟩ := own_put X19 hx hZ e19 A19 N19 ga4 (by decide) (by decide) (g := (mkF m 143 #[.val (.int p1), .val (.int p2), .val (.int (p2 &&& (3 : Int32))), .unset, .unset, .unset, .unset] [(.int (8204 : Int32)), (.int (15 : Int32)), (.ref a4), (.ref a4)])) rfl rfl (hb hby at_143)
        have Z20 : n0 ≤ h20.size := Nat.le_trans Z19 K20.1
        obtain ⟨T21, h21, L21, X21, e21, N21, A21, K21, st21⟩ := own_put X20 hx hZ e20 A20 N20 ga4 (by decide) (by decide) (g := (mkF m 150 #[.val (.int p1), .val (.int p2), .val (.int (p2 &&& (3 : Int32))), .unset, .unset, .unset, .unset] [(.int (8205 : Int32)), (.int (16 : Int32)), (.ref a4), (.ref a4)])) rfl rfl (hb hby at_150)
        have Z21 : n0 ≤ h21.size := Nat.le_trans Z20 K21.1
        obtain ⟨T22, h22, L22, X22, e22, N22, A22, K22, st22⟩ := own_put X21 hx hZ e21 A21 N21 ga4 (by decide) (by decide) (g := (mkF m 157 #[.val (.int p1), .val (.int p2), .val (.int (p2 &&& (3 : Int32))), .unset, .unset, .unset, .unset] [(.int (8304 : Int32)), (.int (17 : Int32)), (.ref a4), (.ref a4)])) rfl rfl (hb hby at_157)
        have Z22 : n0 ≤ h22.size := Nat.le_trans Z21 K22.1
        obtain ⟨T23, h23, L23, X23, e23, N23, A23, K23, st23⟩ := own_put X22 hx hZ e22 A22 N22 ga4 (by decide) (by decide) (g := (mkF m 164 #[.val (.int p1), .val (.int p2), .val (.int (p2 &&& (3 : Int32))), .unset, .unset, .unset, .unset] [(.int (8591 : Int32)), (.int (18 : Int32)), (.ref a4), (.ref a4)])) rfl rfl (hb hby at_164)
        have Z23 : n0 ≤ h23.size := Nat.le_trans Z22 K23.1
        obtain ⟨T24, h24, L24, X24, e24, N24, A24, K24, st24⟩ := own_put X23 hx hZ e23 A23 N23 ga4 (by decide) (by decide) (g := (mkF m 171 #[.val (.int p1), .val (.int p2), .val (.int (p2 &&& (3 : Int32))), .unset, .unset, .unset, .unset] [(.int (11264 : Int32)), (.int (19 : Int32)), (.ref a4), (.ref a4)])) rfl rfl (hb hby at_171)
        have Z24 : n0 ≤ h24.size := Nat.le_trans Z23 K24.1
        obtain ⟨T25, h25, L25, X25, e25, N25, A25, K25, st25⟩ := own_put X24 hx hZ e24 A24 N24 ga4 (by decide) (by decide) (g := (mkF m 178 #[.val (.int p1), .val (.int p2), .val (.int (p2 &&& (3 : Int32))), .unset, .unset, .unset, .unset] [(.int (12271 : Int32)), (.int (20 : Int32)), (.ref a4), (.ref a4)])) rfl rfl (hb hby at_178)
        have Z25 : n0 ≤ h25.size := Nat.le_trans Z24 K25.1
        obtain ⟨T26, h26, L26, X26, e26, N26, A26, K26, st26⟩ := own_put X25 hx hZ e25 A25 N25 ga4 (by decide) (by decide) (g := (mkF m 185 #[.val (.int p1), .val (.int p2), .val (.int (p2 &&& (3 : Int32))), .unset, .unset, .unset, .unset] [(.int (12289 : Int32)), (.int (21 : Int32)), (.ref a4), (.ref a4)])) rfl rfl (hb hby at_185)
        have Z26 : n0 ≤ h26.size := Nat.le_trans Z25 K26.1
        obtain ⟨T27, h27, L27, X27, e27, N27, A27, K27, st27⟩ := own_put X26 hx hZ e26 A26 N26 ga4 (by decide) (by decide) (g := (mkF m 191 #[.val (.int p1), .val (.int p2), .val (.int (p2 &&& (3 : Int32))), .unset, .unset, .unset, .unset] [(.int (55295 : Int32)), (.int (22 : Int32)), (.ref a4), (.ref a4)])) rfl rfl (hb hby at_191)
        have Z27 : n0 ≤ h27.size := Nat.le_trans Z26 K27.1
        obtain ⟨T28, h28, L28, X28, e28, N28, A28, K28, st28⟩ := own_put X27 hx hZ e27 A27 N27 ga4 (by decide) (by decide) (g := (mkF m 197 #[.val (.int p1), .val (.int p2), .val (.int (p2 &&& (3 : Int32))), .unset, .unset, .unset, .unset] [(.int (63744 : Int32)), (.int (23 : Int32)), (.ref a4), (.ref a4)])) rfl rfl (hb hby at_197)
        have Z28 : n0 ≤ h28.size := Nat.le_trans Z27 K28.1
        obtain ⟨T29, h29, L29, X29, e29, N29, A29, K29, st29⟩ := own_put X28 hx hZ e28 A28 N28 ga4 (by decide) (by decide) (g := (mkF m 203 #[.val (.int p1), .val (.int p2), .val (.int (p2 &&& (3 : Int32))), .unset, .unset, .unset, .unset] [(.int (64975 : Int32)), (.int (24 : Int32)), (.ref a4), (.ref a4)])) rfl rfl (hb hby at_203)
        have Z29 : n0 ≤ h29.size := Nat.le_trans Z28 K29.1
        obtain ⟨T30, h30, L30, X30, e30, N30, A30, K30, st30⟩ := own_put X29 hx hZ e29 A29 N29 ga4 (by decide) (by decide) (g := (mkF m 209 #[.val (.int p1), .val (.int p2), .val (.int (p2 &&& (3 : Int32))), .unset, .unset, .unset, .unset] [(.int (65008 : Int32)), (.int (25 : Int32)), (.ref a4), (.ref a4)])) rfl rfl (hb hby at_209)
        have Z30 : n0 ≤ h30.size := Nat.le_trans Z29 K30.1
        obtain ⟨T31, h31, L31, X31, e31, N31, A31, K31, st31⟩ := own_put X30 hx hZ e30 A30 N30 ga4 (by decide) (by decide) (g := (mkF m 215 #[.val (.int p1), .val (.int p2), .val (.int (p2 &&& (3 : Int32))), .unset, .unset, .unset, .unset] [(.int (65533 : Int32)), (.int (26 : Int32)), (.ref a4), (.ref a4)])) rfl rfl (hb hby at_215)
        have Z31 : n0 ≤ h31.size := Nat.le_trans Z30 K31.1
        obtain ⟨T32, h32, L32, X32, e32, N32, A32, K32, st32⟩ := own_put X31 hx hZ e31 A31 N31 ga4 (by decide) (by decide) (g := (mkF m 221 #[.val (.int p1), .val (.int p2), .val (.int (p2 &&& (3 : Int32))), .unset, .unset, .unset, .unset] [(.int (65536 : Int32)), (.int (27 : Int32)), (.ref a4), (.ref a4)])) rfl rfl (hb hby at_221)
        have Z32 : n0 ≤ h32.size := Nat.le_trans Z31 K32.1
        obtain ⟨T33, h33, L33, X33, e33, N33, A33, K33, st33⟩ := own_put X32 hx hZ e32 A32 N32 ga4 (by decide) (by decide) (g := (mkF m 227 #[.val (.int p1), .val (.int p2), .val (.int (p2 &&& (3 : Int32))), .unset, .unset, .unset, .unset] [(.int (983039 : Int32)), (.int (28 : Int32)), (.ref a4), (.ref a4)])) rfl rfl (hb hby at_227)
        have Z33 : n0 ≤ h33.size := Nat.le_trans Z32 K33.1
        obtain ⟨T34, h34, L34, X34, e34, N34, A34, K34, st34⟩ := own_put X33 hx hZ e33 A33 N33 ga4 (by decide) (by decide) (g := (mkF m 233 #[.val (.int p1), .val (.int p2), .val (.int (p2 &&& (3 : Int32))), .unset, .unset, .unset, .unset] [(.int (2147483646 : Int32)), (.int (29 : Int32)), (.ref a4), (.ref a4)])) rfl rfl (hb hby at_233)
        have Z34 : n0 ≤ h34.size := Nat.le_trans Z33 K34.1
        obtain ⟨T35, h35, L35, X35, e35, N35, A35, K35, st35⟩ := own_put X34 hx hZ e34 A34 N34 ga4 (by decide) (by decide) (g := (mkF m 239 #[.val (.int p1), .val (.int p2), .val (.int (p2 &&& (3 : Int32))), .unset, .unset, .unset, .unset] [(.int (-2147483647 : Int32)), (.int (30 : Int32)), (.ref a4), (.ref a4)])) rfl rfl (hb hby at_239)
        have Z35 : n0 ≤ h35.size := Nat.le_trans Z34 K35.1
        obtain ⟨z36, hz36, st36⟩ := own_load X35 hx hZ e35 A35 (own_idx p1).1 (own_idx p1).2 (g := (mkF m 264 #[.val (.int p1), .val (.int p2), .val (.int (p2 &&& (3 : Int32))), .unset, .val (.ref a4), .val (.int ((p1 &&& (2147483647 : Int32)) - ((p1 &&& (2147483647 : Int32)) / (31 : Int32)) * (31 : Int32))), .val (.int (((XT.ushr p2 (2 : Int32)) - ((XT.ushr p2 (2 : Int32)) / (3 : Int32)) * (3 : Int32)) - (1 : Int32)))] [(.int ((p1 &&& (2147483647 : Int32)) - ((p1 &&& (2147483647 : Int32)) / (31 : Int32)) * (31 : Int32))), (.ref a4)])) rfl rfl (hb hby at_264)
        obtain ⟨u, L, st, hrun, hended, hW, hsame, N⟩ := tail0 X35 hx hZ hw hby hml hown hret hlk h35 e35 n0 N35 (by decide) (by decide) (.val (.int p1)) (.val (.int p2)) (.val (.int (p2 &&& (3 : Int32)))) (.val (.ref a4)) (.val (.int ((p1 &&& (2147483647 : Int32)) - ((p1 &&& (2147483647 : Int32)) / (31 : Int32)) * (31 : Int32)))) (.val (.int (((XT.ushr p2 (2 : Int32)) - ((XT.ushr p2 (2 : Int32)) / (3 : Int32)) * (3 : Int32)) - (1 : Int32)))) (z36 + (((XT.ushr p2 (2 : Int32)) - ((XT.ushr p2 (2 : Int32)) / (3 : Int32)) * (3 : Int32)) - (1 : Int32)))
        refine ⟨_, _, pre0 _ ?_, hrun, hended, _, _, rfl, ⟨rfl, N⟩, ⟨_, rfl⟩, hW, hsame.mono (by decide) (by decide)⟩
        show Steps p.tables e below (s₁.setTop (mkF m 0 #[.val (.int p1), .val (.int p2), .unset, .unset, .unset, .unset, .unset] [])) _
        refine XS.iloadN X0.here hx rfl (hb hby at_0) rfl ?_
        show Steps p.tables e below (s₁.setTop (mkF m 1 #[.val (.int p1), .val (.int p2), .unset, .unset, .unset, .unset, .unset] [(.int p2)])) _
        refine XS.iconst X0.here hx rfl (hb hby at_1) ?_
        show Steps p.tables e below (s₁.setTop (mkF m 2 #[.val (.int p1), .val (.int p2), .unset, .unset, .unset, .unset, .unset] [(.int (3 : Int32)), (.int p2)])) _
        refine XS.iand X0.here hx rfl (hb hby at_2) rfl ?_
        show Steps p.tables e below (s₁.setTop (mkF m 3 #[.val (.int p1), .val (.int p2), .unset, .unset, .unset, .unset, .unset] [(.int (p2 &&& (3 : Int32)))])) _
        refine XS.istoreN X0.here hx rfl (hb hby at_3) rfl (l' := #[.val (.int p1), .val (.int p2), .val (.int (p2 &&& (3 : Int32))), .unset, .unset, .unset, .unset]) rfl ?_
        show Steps p.tables e below (s₁.setTop (mkF m 4 #[.val (.int p1), .val (.int p2), .val (.int (p2 &&& (3 : Int32))), .unset, .unset, .unset, .unset] [])) _
        refine XS.iloadN X0.here hx rfl (hb hby at_4) rfl ?_
        show Steps p.tables e below (s₁.setTop (mkF m 5 #[.val (.int p1), .val (.int p2), .val (.int (p2 &&& (3 : Int32))), .unset, .unset, .unset, .unset] [(.int (p2 &&& (3 : Int32)))])) _
        refine XS.ifYes X0.here hx rfl (pc0 := 5) (pc' := 13) rfl (hb hby at_5) rfl ((if0 _ _).trans (feq hc1).2) (by decide) (by decide) ?_
        show Steps p.tables e below (s₁.setTop (mkF m 13 #[.val (.int p1), .val (.int p2), .val (.int (p2 &&& (3 : Int32))), .unset, .unset, .unset, .unset] [])) _
        refine XS.iloadN X0.here hx rfl (hb hby at_13) rfl ?_
        show Steps p.tables e below (s₁.setTop (mkF m 14 #[.val (.int p1), .val (.int p2), .val (.int (p2 &&& (3 : Int32))), .unset, .unset, .unset, .unset] [(.int (p2 &&& (3 : Int32)))])) _
        refine XS.iconst X0.here hx rfl (hb hby at_14) ?_
        show Steps p.tables e below (s₁.setTop (mkF m 15 #[.val (.int p1), .val (.int p2), .val (.int (p2 &&& (3 : Int32))), .unset, .unset, .unset, .unset] [(.int (1 : Int32)), (.int (p2 &&& (3 : Int32)))])) _
        refine XS.icmpYes X0.here hx rfl (pc0 := 15) (pc' := 26) rfl (hb hby at_15) rfl (feq hc2).2 (by decide) (by decide) ?_
        show Steps p.tables e below (s₁.setTop (mkF m 26 #[.val (.int p1), .val (.int p2), .val (.int (p2 &&& (3 : Int32))), .unset, .unset, .unset, .unset] [])) _
        refine XS.iloadN X0.here hx rfl (hb hby at_26) rfl ?_
        show Steps p.tables e below (s₁.setTop (mkF m 27 #[.val (.int p1), .val (.int p2), .val (.int (p2 &&& (3 : Int32))), .unset, .unset, .unset, .unset] [(.int (p2 &&& (3 : Int32)))])) _
        refine XS.iconst X0.here hx rfl (hb hby at_27) ?_
        show Steps p.tables e below (s₁.setTop (mkF m 28 #[.val (.int p1), .val (.int p2), .val (.int (p2 &&& (3 : Int32))), .unset, .unset, .unset, .unset] [(.int (2 : Int32)), (.int (p2 &&& (3 : Int32)))])) _
        refine XS.icmpYes X0.here hx rfl (pc0 := 28) (pc' := 39) rfl (hb hby at_28) rfl (feq hc3).2 (by decide) (by decide) ?_
        show Steps p.tables e below (s₁.setTop (mkF m 39 #[.val (.int p1), .val (.int p2), .val (.int (p2 &&& (3 : Int32))), .unset, .unset, .unset, .unset] [])) _
        refine XS.bipush X0.here hx rfl (hb hby at_39) ?_
        show Steps p.tables e below (s₁.setTop (mkF m 41 #[.val (.int p1), .val (.int p2), .val (.int (p2 &&& (3 : Int32))), .unset, .unset, .unset, .unset] [(.int (31 : Int32))])) _
        refine st4 _ ?_
        show Steps p.tables e below (T4.setTop (mkF m 43 #[.val (.int p1), .val (.int p2), .val (.int (p2 &&& (3 : Int32))), .unset, .unset, .unset, .unset] [(.ref a4)])) _
        refine XS.dup X4.here hx rfl (hb hby at_43) rfl rfl ?_
        show Steps p.tables e below (T4.setTop (mkF m 44 #[.val (.int p1), .val (.int p2), .val (.int (p2 &&& (3 : Int32))), .unset, .unset, .unset, .unset] [(.ref a4), (.ref a4)])) _
        refine XS.iconst X4.here hx rfl (hb hby at_44) ?_
        show Steps p.tables e below (T4.setTop (mkF m 45 #[.val (.int p1), .val (.int p2), .val (.int (p2 &&& (3 : Int32))), .unset, .unset, .unset, .unset] [(.int (0 : Int32)), (.ref a4), (.ref a4)])) _
        refine XS.bipush X4.here hx rfl (hb hby at_45) ?_
        show Steps p.tables e below (T4.setTop (mkF m 47 #[.val (.int p1), .val (.int p2), .val (.int (p2 &&& (3 : Int32))), .unset, .unset, .unset, .unset] [(.int (65 : Int32)), (.int (0 : Int32)), (.ref a4), (.ref a4)])) _
        refine st5 _ ?_
        show Steps p.tables e below (T5.setTop (mkF m 48 #[.val (.int p1), .val (.int p2), .val (.int (p2 &&& (3 : Int32))), .unset, .unset, .unset, .unset] [(.ref a4)])) _
        refine XS.dup X5.here hx rfl (hb hby at_48) rfl rfl ?_
        show Steps p.tables e below (T5.setTop (mkF m 49 #[.val (.int p1), .val (.int p2), .val (.int (p2 &&& (3 : Int32))), .unset, .unset, .unset, .unset] [(.ref a4), (.ref a4)])) _
        refine XS.iconst X5.here hx rfl (hb hby at_49) ?_
        show Steps p.tables e below (T5.setTop (mkF m 50 #[.val (.int p1), .val (.int p2), .val (.int (p2 &&& (3 : Int32))), .unset, .unset, .unset, .unset] [(.int (1 : Int32)), (.ref a4), (.ref a4)])) _
        refine XS.bipush X5.here hx rfl (hb hby at_50) ?_
        show Steps p.tables e below (T5.setTop (mkF m 52 #[.val (.int p1), .val (.int p2), .val (.int (p2 &&& (3 : Int32))), .unset, .unset, .unset, .unset] [(.int (90 : Int32)), (.int (1 : Int32)), (.ref a4), (.ref a4)])) _
        refine st6 _ ?_
        show Steps p.tables e below (T6.setTop (mkF m 53 #[.val (.int p1), .val (.int p2), .val (.int (p2 &&& (3 : Int32))), .unset, .unset, .unset, .unset] [(.ref a4)])) _
        refine XS.dup X6.here hx rfl (hb hby at_53) rfl rfl ?_
        show Steps p.tables e below (T6.setTop (mkF m 54 #[.val (.int p1), .val (.int p2), .val (.int (p2 &&& (3 : Int32))), .unset, .unset, .unset, .unset] [(.ref a4), (.ref a4)])) _
        refine XS.iconst X6.here hx rfl (hb hby at_54) ?_
        show Steps p.tables e below (T6.setTop (mkF m 55 #[.val (.int p1), .val (.int p2), .val (.int (p2 &&& (3 : Int32))), .unset, .unset, .unset, .unset] [(.int (2 : Int32)), (.ref a4), (.ref a4)])) _
        refine XS.bipush X6.here hx rfl (hb hby at_55) ?_
        show Steps p.tables e below (T6.setTop (mkF m 57 #[.val (.int p1), .val (.int p2), .val (.int (p2 &&& (3 : Int32))), .unset, .unset, .unset, .unset] [(.int (97 : Int32)), (.int (2 : Int32)), (.ref a4), (.ref a4)])) _
        refine st7 _ ?_
        show Steps p.tables e below (T7.setTop (mkF m 58 #[.val (.int p1), .val (.int p2), .val (.int (p2 &&& (3 : Int32))), .unset, .unset, .unset, .unset] [(.ref a4)])) _
        refine XS.dup X7.here hx rfl (hb hby at_58) rfl rfl ?_
        show Steps p.tables e below (T7.setTop (mkF m 59 #[.val (.int p1), .val (.int p2), .val (.int (p2 &&& (3 : Int32))), .unset, .unset, .unset, .unset] [(.ref a4), (.ref a4)])) _
        refine XS.iconst X7.here hx rfl (hb hby at_59) ?_
        show Steps p.tables e below (T7.setTop (mkF m 60 #[.val (.int p1), .val (.int p2), .val (.int (p2 &&& (3 : Int32))), .unset, .unset, .unset, .unset] [(.int (3 : Int32)), (.ref a4), (.ref a4)])) _
        refine XS.bipush X7.here hx rfl (hb hby at_60) ?_
        show Steps p.tables e below (T7.setTop (mkF m 62 #[.val (.int p1), .val (.int p2), .val (.int (p2 &&& (3 : Int32))), .unset, .unset, .unset, .unset] [(.int (122 : Int32)), (.int (3 : Int32)), (.ref a4), (.ref a4)])) _
        refine st8 _ ?_
        show Steps p.tables e below (T8.setTop (mkF m 63 #[.val (.int p1), .val (.int p2), .val (.int (p2 &&& (3 : Int32))), .unset, .unset, .unset, .unset] [(.ref a4)])) _
        refine XS.dup X8.here hx rfl (hb hby at_63) rfl rfl ?_
        show Steps p.tables e below (T8.setTop (mkF m 64 #[.val (.int p1), .val (.int p2), .val (.int (p2 &&& (3 : Int32))), .unset, .unset, .unset, .unset] [(.ref a4), (.ref a4)])) _
        refine XS.iconst X8.here hx rfl (hb hby at_64) ?_
        show Steps p.tables e below (T8.setTop (mkF m 65 #[.val (.int p1), .val (.int p2), .val (.int (p2 &&& (3 : Int32))), .unset, .unset, .unset, .unset] [(.int (4 : Int32)), (.ref a4), (.ref a4)])) _
        refine XS.bipush X8.here hx rfl (hb hby at_65) ?_
        show Steps p.tables e below (T8.setTop (mkF m 67 #[.val (.int p1), .val (.int p2), .val (.int (p2 &&& (3 : Int32))), .unset, .unset, .unset, .unset] [(.int (95 : Int32)), (.int (4 : Int32)), (.ref a4), (.ref a4)])) _
        refine st9 _ ?_
        show Steps p.tables e below (T9.setTop (mkF m 68 #[.val (.int p1), .val (.int p2), .val (.int (p2 &&& (3 : Int32))), .unset, .unset, .unset, .unset] [(.ref a4)])) _
        refine XS.dup X9.here hx rfl (hb hby at_68) rfl rfl ?_
        show Steps p.tables e below (T9.setTop (mkF m 69 #[.val (.int p1), .val (.int p2), .val (.int (p2 &&& (3 : Int32))), .unset, .unset, .unset, .unset] [(.ref a4), (.ref a4)])) _
        refine XS.iconst X9.here hx rfl (hb hby at_69) ?_
        show Steps p.tables e below (T9.setTop (mkF m 70 #[.val (.int p1), .val (.int p2), .val (.int (p2 &&& (3 : Int32))), .unset, .unset, .unset, .unset] [(.int (5 : Int32)), (.ref a4), (.ref a4)])) _
        refine XS.sipush X9.here hx rfl (hb hby at_70) ?_
        show Steps p.tables e below (T9.setTop (mkF m 73 #[.val (.int p1), .val (.int p2), .val (.int (p2 &&& (3 : Int32))), .unset, .unset, .unset, .unset] [(.int (192 : Int32)), (.int (5 : Int32)), (.ref a4), (.ref a4)])) _
        refine st10 _ ?_
        show Steps p.tables e below (T10.setTop (mkF m 74 #[.val (.int p1), .val (.int p2), .val (.int (p2 &&& (3 : Int32))), .unset, .unset, .unset, .unset] [(.ref a4)])) _
        refine XS.dup X10.here hx rfl (hb hby at_74) rfl rfl ?_
        show Steps p.tables e below (T10.setTop (mkF m 75 #[.val (.int p1), .val (.int p2), .val (.int (p2 &&& (3 : Int32))), .unset, .unset, .unset, .unset] [(.ref a4), (.ref a4)])) _
        refine XS.bipush X10.here hx rfl (hb hby at_75) ?_
        show Steps p.tables e below (T10.setTop (mkF m 77 #[.val (.int p1), .val (.int p2), .val (.int (p2 &&& (3 : Int32))), .unset, .unset, .unset, .unset] [(.int (6 : Int32)), (.ref a4), (.ref a4)])) _
        refine XS.sipush X10.here hx rfl (hb hby at_77) ?_
        show Steps p.tables e below (T10.setTop (mkF m 80 #[.val (.int p1), .val (.int p2), .val (.int (p2 &&& (3 : Int32))), .unset, .unset, .unset, .unset] [(.int (214 : Int32)), (.int (6 : Int32)), (.ref a4), (.ref a4)])) _
        refine st11 _ ?_
        show Steps p.tables e below (T11.setTop (mkF m 81 #[.val (.int p1), .val (.int p2), .val (.int (p2 &&& (3 : Int32))), .unset, .unset, .unset, .unset] [(.ref a4)])) _
        refine XS.dup X11.here hx rfl (hb hby at_81) rfl rfl ?_
        show Steps p.tables e below (T11.setTop (mkF m 82 #[.val (.int p1), .val (.int p2), .val (.int (p2 &&& (3 : Int32))), .unset, .unset, .unset, .unset] [(.ref a4), (.ref a4)])) _
        refine XS.bipush X11.here hx rfl (hb hby at_82) ?_
        show Steps p.tables e below (T11.setTop (mkF m 84 #[.val (.int p1), .val (.int p2), .val (.int (p2 &&& (3 : Int32))), .unset, .unset, .unset, .unset] [(.int (7 : Int32)), (.ref a4), (.ref a4)])) _
        refine XS.sipush X11.here hx rfl (hb hby at_84) ?_
        show Steps p.tables e below (T11.setTop (mkF m 87 #[.val (.int p1), .val (.int p2), .val (.int (p2 &&& (3 : Int32))), .unset, .unset, .unset, .unset] [(.int (216 : Int32)), (.int (7 : Int32)), (.ref a4), (.ref a4)])) _
        refine st12 _ ?_
        show Steps p.tables e below (T12.setTop (mkF m 88 #[.val (.int p1), .val (.int p2), .val (.int (p2 &&& (3 : Int32))), .unset, .unset, .unset, .unset] [(.ref a4)])) _
        refine XS.dup X12.here hx rfl (hb hby at_88) rfl rfl ?_
        show Steps p.tables e below (T12.setTop (mkF m 89 #[.val (.int p1), .val (.int p2), .val (.int (p2 &&& (3 : Int32))), .unset, .unset, .unset, .unset] [(.ref a4), (.ref a4)])) _
        refine XS.bipush X12.here hx rfl (hb hby at_89) ?_
        show Steps p.tables e below (T12.setTop (mkF m 91 #[.val (.int p1), .val (.int p2), .val (.int (p2 &&& (3 : Int32))), .unset, .unset, .unset, .unset] [(.int (8 : Int32)), (.ref a4), (.ref a4)])) _
        refine XS.sipush X12.here hx rfl (hb hby at_91) ?_
        show Steps p.tables e below (T12.setTop (mkF m 94 #[.val (.int p1), .val (.int p2), .val (.int (p2 &&& (3 : Int32))), .unset, .unset, .unset, .unset] [(.int (246 : Int32)), (.int (8 : Int32)), (.ref a4), (.ref a4)])) _
        refine st13 _ ?_
        show Steps p.tables e below (T13.setTop (mkF m 95 #[.val (.int p1), .val (.int p2), .val (.int (p2 &&& (3 : Int32))), .unset, .unset, .unset, .unset] [(.ref a4)])) _
        refine XS.dup X13.here hx rfl (hb hby at_95) rfl rfl ?_
        show Steps p.tables e below (T13.setTop (mkF m 96 #[.val (.int p1), .val (.int p2), .val (.int (p2 &&& (3 : Int32))), .unset, .unset, .unset, .unset] [(.ref a4), (.ref a4)])) _
        refine XS.bipush X13.here hx rfl (hb hby at_96) ?_
        show Steps p.tables e below (T13.setTop (mkF m 98 #[.val (.int p1), .val (.int p2), .val (.int (p2 &&& (3 : Int32))), .unset, .unset, .unset, .unset] [(.int (9 : Int32)), (.ref a4), (.ref a4)])) _
        refine XS.sipush X13.here hx rfl (hb hby at_98) ?_
        show Steps p.tables e below (T13.setTop (mkF m 101 #[.val (.int p1), .val (.int p2), .val (.int (p2 &&& (3 : Int32))), .unset, .unset, .unset, .unset] [(.int (248 : Int32)), (.int (9 : Int32)), (.ref a4), (.ref a4)])) _
        refine st14 _ ?_
        show Steps p.tables e below (T14.setTop (mkF m 102 #[.val (.int p1), .val (.int p2), .val (.int (p2 &&& (3 : Int32))), .unset, .unset, .unset, .unset] [(.ref a4)])) _
        refine XS.dup X14.here hx rfl (hb hby at_102) rfl rfl ?_
        show Steps p.tables e below (T14.setTop (mkF m 103 #[.val (.int p1), .val (.int p2), .val (.int (p2 &&& (3 : Int32))), .unset, .unset, .unset, .unset] [(.ref a4), (.ref a4)])) _
        refine XS.bipush X14.here hx rfl (hb hby at_103) ?_
        show Steps p.tables e below (T14.setTop (mkF m 105 #[.val (.int p1), .val (.int p2), .val (.int (p2 &&& (3 : Int32))), .unset, .unset, .unset, .unset] [(.int (10 : Int32)), (.ref a4), (.ref a4)])) _
        refine XS.sipush X14.here hx rfl (hb hby at_105) ?_
        show Steps p.tables e below (T14.setTop (mkF m 108 #[.val (.int p1), .val (.int p2), .val (.int (p2 &&& (3 : Int32))), .unset, .unset, .unset, .unset] [(.int (767 : Int32)), (.int (10 : Int32)), (.ref a4), (.ref a4)])) _
        refine st15 _ ?_
        show Steps p.tables e below (T15.setTop (mkF m 109 #[.val (.int p1), .val (.int p2), .val (.int (p2 &&& (3 : Int32))), .unset, .unset, .unset, .unset] [(.ref a4)])) _
        refine XS.dup X15.here hx rfl (hb hby at_109) rfl rfl ?_
        show Steps p.tables e below (T15.setTop (mkF m 110 #[.val (.int p1), .val (.int p2), .val (.int (p2 &&& (3 : Int32))), .unset, .unset, .unset, .unset] [(.ref a4), (.ref a4)])) _
        refine XS.bipush X15.here hx rfl (hb hby at_110) ?_
        show Steps p.tables e below (T15.setTop (mkF m 112 #[.val (.int p1), .val (.int p2), .val (.int (p2 &&& (3 : Int32))), .unset, .unset, .unset, .unset] [(.int (11 : Int32)), (.ref a4), (.ref a4)])) _
        refine XS.sipush X15.here hx rfl (hb hby at_112) ?_
        show Steps p.tables e below (T15.setTop (mkF m 115 #[.val (.int p1), .val (.int p2), .val (.int (p2 &&& (3 : Int32))), .unset, .unset, .unset, .unset] [(.int (880 : Int32)), (.int (11 : Int32)), (.ref a4), (.ref a4)])) _
        refine st16 _ ?_
        show Steps p.tables e below (T16.setTop (mkF m 116 #[.val (.int p1), .val (.int p2), .val (.int (p2 &&& (3 : Int32))), .unset, .unset, .unset, .unset] [(.ref a4)])) _
        refine XS.dup X16.here hx rfl (hb hby at_116) rfl rfl ?_
        show Steps p.tables e below (T16.setTop (mkF m 117 #[.val (.int p1), .val (.int p2), .val (.int (p2 &&& (3 : Int32))), .unset, .unset, .unset, .unset] [(.ref a4), (.ref a4)])) _
        refine XS.bipush X16.here hx rfl (hb hby at_117) ?_
        show Steps p.tables e below (T16.setTop (mkF m 119 #[.val (.int p1), .val (.int p2), .val (.int (p2 &&& (3 : Int32))), .unset, .unset, .unset, .unset] [(.int (12 : Int32)), (.ref a4), (.ref a4)])) _
        refine XS.sipush X16.here hx rfl (hb hby at_119) ?_
        show Steps p.tables e below (T16.setTop (mkF m 122 #[.val (.int p1), .val (.int p2), .val (.int (p2 &&& (3 : Int32))), .unset, .unset, .unset, .unset] [(.int (893 : Int32)), (.int (12 : Int32)), (.ref a4), (.ref a4)])) _
        refine st17 _ ?_
        show Steps p.tables e below (T17.setTop (mkF m 123 #[.val (.int p1), .val (.int p2), .val (.int (p2 &&& (3 : Int32))), .unset, .unset, .unset, .unset] [(.ref a4)])) _
        refine XS.dup X17.here hx rfl (hb hby at_123) rfl rfl ?_
        show Steps p.tables e below (T17.setTop (mkF m 124 #[.val (.int p1), .val (.int p2), .val (.int (p2 &&& (3 : Int32))), .unset, .unset, .unset, .unset] [(.ref a4), (.ref a4)])) _
        refine XS.bipush X17.here hx rfl (hb hby at_124) ?_
        show Steps p.tables e below (T17.setTop (mkF m 126 #[.val (.int p1), .val (.int p2), .val (.int (p2 &&& (3 : Int32))), .unset, .unset, .unset, .unset] [(.int (13 : Int32)), (.ref a4), (.ref a4)])) _
        refine XS.sipush X17.here hx rfl (hb hby at_126) ?_
        show Steps p.tables e below (T17.setTop (mkF m 129 #[.val (.int p1), .val (.int p2), .val (.int (p2 &&& (3 : Int32))), .unset, .unset, .unset, .unset] [(.int (895 : Int32)), (.int (13 : Int32)), (.ref a4), (.ref a4)])) _
        refine st18 _ ?_
        show Steps p.tables e below (T18.setTop (mkF m 130 #[.val (.int p1), .val (.int p2), .val (.int (p2 &&& (3 : Int32))), .unset, .unset, .unset, .unset] [(.ref a4)])) _
        refine XS.dup X18.here hx rfl (hb hby at_130) rfl rfl ?_
        show Steps p.tables e below (T18.setTop (mkF m 131 #[.val (.int p1), .val (.int p2), .val (.int (p2 &&& (3 : Int32))), .unset, .unset, .unset, .unset] [(.ref a4), (.ref a4)])) _
        refine XS.bipush X18.here hx rfl (hb hby at_131) ?_
        show Steps p.tables e below (T18.setTop (mkF m 133 #[.val (.int p1), .val (.int p2), .val (.int (p2 &&& (3 : Int32))), .unset, .unset, .unset, .unset] [(.int (14 : Int32)), (.ref a4), (.ref a4)])) _
        refine XS.sipush X18.here hx rfl (hb hby at_133) ?_
        show Steps p.tables e below (T18.setTop (mkF m 136 #[.val (.int p1), .val (.int p2), .val (.int (p2 &&& (3 : Int32))), .unset, .unset, .unset, .unset] [(.int (8191 : Int32)), (.int (14 : Int32)), (.ref a4), (.ref a4)])) _
        refine st19 _ ?_
        show Steps p.tables e below (T19.setTop (mkF m 137 #[.val (.int p1), .val (.int p2), .val (.int (p2 &&& (3 : Int32))), .unset, .unset, .unset, .unset] [(.ref a4)])) _
        refine XS.dup X19.here hx rfl (hb hby at_137) rfl rfl ?_
        show Steps p.tables e below (T19.setTop (mkF m 138 #[.val (.int p1), .val (.int p2), .val (.int (p2 &&& (3 : Int32))), .unset, .unset, .unset, .unset] [(.ref a4), (.ref a4)])) _
        refine XS.bipush X19.here hx rfl (hb hby at_138) ?_
        show Steps p.tables e below (T19.setTop (mkF m 140 #[.val (.int p1), .val (.int p2), .val (.int (p2 &&& (3 : Int32))), .unset, .unset, .unset, .unset] [(.int (15 : Int32)), (.ref a4), (.ref a4)])) _
        refine XS.sipush X19.here hx rfl (hb hby at_140) ?_
        show Steps p.tables e below (T19.setTop (mkF m 143 #[.val (.int p1), .val (.int p2), .val (.int (p2 &&& (3 : Int32))), .unset, .unset, .unset, .unset] [(.int (8204 : Int32)), (.int (15 : Int32)), (.ref a4), (.ref a4)])) _
        refine st20 _ ?_
        show Steps p.tables e below (T20.setTop (mkF m 144 #[.val (.int p1), .val (.int p2), .val (.int (p2 &&& (3 : Int32))), .unset, .unset, .unset, .unset] [(.ref a4)])) _
        refine XS.dup X20.here hx rfl (hb hby at_144) rfl rfl ?_
        show Steps p.tables e below (T20.setTop (mkF m 145 #[.val (.int p1), .val (.int p2), .val (.int (p2 &&& (3 : Int32))), .unset, .unset, .unset, .unset] [(.ref a4), (.ref a4)])) _
        refine XS.bipush X20.here hx rfl (hb hby at_145) ?_
        show Steps p.tables e below (T20.setTop (mkF m 147 #[.val (.int p1), .val (.int p2), .val (.int (p2 &&& (3 : Int32))), .unset, .unset, .unset, .unset] [(.int (16 : Int32)), (.ref a4), (.ref a4)])) _
        refine XS.sipush X20.here hx rfl (hb hby at_147) ?_
        show Steps p.tables e below (T20.setTop (mkF m 150 #[.val (.int p1), .val (.int p2), .val (.int (p2 &&& (3 : Int32))), .unset, .unset, .unset, .unset] [(.int (8205 : Int32)), (.int (16 : Int32)), (.ref a4), (.ref a4)])) _
        refine st21 _ ?_
        show Steps p.tables e below (T21.setTop (mkF m 151 #[.val (.int p1), .val (.int p2), .val (.int (p2 &&& (3 : Int32))), .unset, .unset, .unset, .unset] [(.ref a4)])) _
        refine XS.dup X21.here hx rfl (hb hby at_151) rfl rfl ?_
        show Steps p.tables e below (T21.setTop (mkF m 152 #[.val (.int p1), .val (.int p2), .val (.int (p2 &&& (3 : Int32))), .unset, .unset, .unset, .unset] [(.ref a4), (.ref a4)])) _
        refine XS.bipush X21.here hx rfl (hb hby at_152) ?_
        show Steps p.tables e below (T21.setTop (mkF m 154 #[.val (.int p1), .val (.int p2), .val (.int (p2 &&& (3 : Int32))), .unset, .unset, .unset, .unset] [(.int (17 : Int32)), (.ref a4), (.ref a4)])) _
        refine XS.sipush X21.here hx rfl (hb hby at_154) ?_
        show Steps p.tables e below (T21.setTop (mkF m 157 #[.val (.int p1), .val (.int p2), .val (.int (p2 &&& (3 : Int32))), .unset, .unset, .unset, .unset] [(.int (8304 : Int32)), (.int (17 : Int32)), (.ref a4), (.ref a4)])) _
        refine st22 _ ?_
        show Steps p.tables e below (T22.setTop (mkF m 158 #[.val (.int p1), .val (.int p2), .val (.int (p2 &&& (3 : Int32))), .unset, .unset, .unset, .unset] [(.ref a4)])) _
        refine XS.dup X22.here hx rfl (hb hby at_158) rfl rfl ?_
        show Steps p.tables e below (T22.setTop (mkF m 159 #[.val (.int p1), .val (.int p2), .val (.int (p2 &&& (3 : Int32))), .unset, .unset, .unset, .unset] [(.ref a4), (.ref a4)])) _
        refine XS.bipush X22.here hx rfl (hb hby at_159) ?_
        show Steps p.tables e below (T22.setTop (mkF m 161 #[.val (.int p1), .val (.int p2), .val (.int (p2 &&& (3 : Int32))), .unset, .unset, .unset, .unset] [(.int (18 : Int32)), (.ref a4), (.ref a4)])) _
        refine XS.sipush X22.here hx rfl (hb hby at_161) ?_
        show Steps p.tables e below (T22.setTop (mkF m 164 #[.val (.int p1), .val (.int p2), .val (.int (p2 &&& (3 : Int32))), .unset, .unset, .unset, .unset] [(.int (8591 : Int32)), (.int (18 : Int32)), (.ref a4), (.ref a4)])) _
        refine st23 _ ?_
        show Steps p.tables e below (T23.setTop (mkF m 165 #[.val (.int p1), .val (.int p2), .val (.int (p2 &&& (3 : Int32))), .unset, .unset, .unset, .unset] [(.ref a4)])) _
        refine XS.dup X23.here hx rfl (hb hby at_165) rfl rfl ?_
        show Steps p.tables e below (T23.setTop (mkF m 166 #[.val (.int p1), .val (.int p2), .val (.int (p2 &&& (3 : Int32))), .unset, .unset, .unset, .unset] [(.ref a4), (.ref a4)])) _
        refine XS.bipush X23.here hx rfl (hb hby at_166) ?_
        show Steps p.tables e below (T23.setTop (mkF m 168 #[.val (.int p1), .val (.int p2), .val (.int (p2 &&& (3 : Int32))), .unset, .unset, .unset, .unset] [(.int (19 : Int32)), (.ref a4), (.ref a4)])) _
        refine XS.sipush X23.here hx rfl (hb hby at_168) ?_
        show Steps p.tables e below (T23.setTop (mkF m 171 #[.val (.int p1), .val (.int p2), .val (.int (p2 &&& (3 : Int32))), .unset, .unset, .unset, .unset] [(.int (11264 : Int32)), (.int (19 : Int32)), (.ref a4), (.ref a4)])) _
        refine st24 _ ?_
        show Steps p.tables e below (T24.setTop (mkF m 172 #[.val (.int p1), .val (.int p2), .val (.int (p2 &&& (3 : Int32))), .unset, .unset, .unset, .unset] [(.ref a4)])) _
        refine XS.dup X24.here hx rfl (hb hby at_172) rfl rfl ?_
        show Steps p.tables e below (T24.setTop (mkF m 173 #[.val (.int p1), .val (.int p2), .val (.int (p2 &&& (3 : Int32))), .unset, .unset, .unset, .unset] [(.ref a4), (.ref a4)])) _
        refine XS.bipush X24.here hx rfl (hb hby at_173) ?_
        show Steps p.tables e below (T24.setTop (mkF m 175 #[.val (.int p1), .val (.int p2), .val (.int (p2 &&& (3 : Int32))), .unset, .unset, .unset, .unset] [(.int (20 : Int32)), (.ref a4), (.ref a4)])) _
        refine XS.sipush X24.here hx rfl (hb hby at_175) ?_
        show Steps p.tables e below (T24.setTop (mkF m 178 #[.val (.int p1), .val (.int p2), .val (.int (p2 &&& (3 : Int32))), .unset, .unset, .unset, .unset] [(.int (12271 : Int32)), (.int (20 : Int32)), (.ref a4), (.ref a4)])) _
        refine st25 _ ?_
        show Steps p.tables e below (T25.setTop (mkF m 179 #[.val (.int p1), .val (.int p2), .val (.int (p2 &&& (3 : Int32))), .unset, .unset, .unset, .unset] [(.ref a4)])) _
        refine XS.dup X25.here hx rfl (hb hby at_179) rfl rfl ?_
        show Steps p.tables e below (T25.setTop (mkF m 180 #[.val (.int p1), .val (.int p2), .val (.int (p2 &&& (3 : Int32))), .unset, .unset, .unset, .unset] [(.ref a4), (.ref a4)])) _
        refine XS.bipush X25.here hx rfl (hb hby at_180) ?_
        show Steps p.tables e below (T25.setTop (mkF m 182 #[.val (.int p1), .val (.int p2), .val (.int (p2 &&& (3 : Int32))), .unset, .unset, .unset, .unset] [(.int (21 : Int32)), (.ref a4), (.ref a4)])) _
        refine XS.sipush X25.here hx rfl (hb hby at_182) ?_
        show Steps p.tables e below (T25.setTop (mkF m 185 #[.val (.int p1), .val (.int p2), .val (.int (p2 &&& (3 : Int32))), .unset, .unset, .unset, .unset] [(.int (12289 : Int32)), (.int (21 : Int32)), (.ref a4), (.ref a4)])) _
        refine st26 _ ?_
        show Steps p.tables e below (T26.setTop (mkF m 186 #[.val (.int p1), .val (.int p2), .val (.int (p2 &&& (3 : Int32))), .unset, .unset, .unset, .unset] [(.ref a4)])) _
        refine XS.dup X26.here hx rfl (hb hby at_186) rfl rfl ?_
        show Steps p.tables e below (T26.setTop (mkF m 187 #[.val (.int p1), .val (.int p2), .val (.int (p2 &&& (3 : Int32))), .unset, .unset, .unset, .unset] [(.ref a4), (.ref a4)])) _
        refine XS.bipush X26.here hx rfl (hb hby at_187) ?_
        show Steps p.tables e below (T26.setTop (mkF m 189 #[.val (.int p1), .val (.int p2), .val (.int (p2 &&& (3 : Int32))), .unset, .unset, .unset, .unset] [(.int (22 : Int32)), (.ref a4), (.ref a4)])) _
        refine X26.ldcI hx hown (v := (55295 : Int32)) (mvT hZ (hw _ (List.mem_of_getElem? (i := 1) rfl))) rfl (hb hby at_189) ?_
        show Steps p.tables e below (T26.setTop (mkF m 191 #[.val (.int p1), .val (.int p2), .val (.int (p2 &&& (3 : Int32))), .unset, .unset, .unset, .unset] [(.int (55295 : Int32)), (.int (22 : Int32)), (.ref a4), (.ref a4)])) _
        refine st27 _ ?_
        show Steps p.tables e below (T27.setTop (mkF m 192 #[.val (.int p1), .val (.int p2), .val (.int (p2 &&& (3 : Int32))), .unset, .unset, .unset, .unset] [(.ref a4)])) _
        refine XS.dup X27.here hx rfl (hb hby at_192) rfl rfl ?_
        show Steps p.tables e below (T27.setTop (mkF m 193 #[.val (.int p1), .val (.int p2), .val (.int (p2 &&& (3 : Int32))), .unset, .unset, .unset, .unset] [(.ref a4), (.ref a4)])) _
        refine XS.bipush X27.here hx rfl (hb hby at_193) ?_
        show Steps p.tables e below (T27.setTop (mkF m 195 #[.val (.int p1), .val (.int p2), .val (.int (p2 &&& (3 : Int32))), .unset, .unset, .unset, .unset] [(.int (23 : Int32)), (.ref a4), (.ref a4)])) _
        refine X27.ldcI hx hown (v := (63744 : Int32)) (mvT hZ (hw _ (List.mem_of_getElem? (i := 2) rfl))) rfl (hb hby at_195) ?_
        show Steps p.tables e below (T27.setTop (mkF m 197 #[.val (.int p1), .val (.int p2), .val (.int (p2 &&& (3 : Int32))), .unset, .unset, .unset, .unset] [(.int (63744 : Int32)), (.int (23 : Int32)), (.ref a4), (.ref a4)])) _
        refine st28 _ ?_
        show Steps p.tables e below (T28.setTop (mkF m 198 #[.val (.int p1), .val (.int p2), .val (.int (p2 &&& (3 : Int32))), .unset, .unset, .unset, .unset] [(.ref a4)])) _
        refine XS.dup X28.here hx rfl (hb hby at_198) rfl rfl ?_
        show Steps p.tables e below (T28.setTop (mkF m 199 #[.val (.int p1), .val (.int p2), .val (.int (p2 &&& (3 : Int32))), .unset, .unset, .unset, .unset] [(.ref a4), (.ref a4)])) _
        refine XS.bipush X28.here hx rfl (hb hby at_199) ?_
        show Steps p.tables e below (T28.setTop (mkF m 201 #[.val (.int p1), .val (.int p2), .val (.int (p2 &&& (3 : Int32))), .unset, .unset, .unset, .unset] [(.int (24 : Int32)), (.ref a4), (.ref a4)])) _
        refine X28.ldcI hx hown (v := (64975 : Int32)) (mvT hZ (hw _ (List.mem_of_getElem? (i := 3) rfl))) rfl (hb hby at_201) ?_
        show Steps p.tables e below (T28.setTop (mkF m 203 #[.val (.int p1), .val (.int p2), .val (.int (p2 &&& (3 : Int32))), .unset, .unset, .unset, .unset] [(.int (64975 : Int32)), (.int (24 : Int32)), (.ref a4), (.ref a4)])) _
        refine st29 _ ?_
        show Steps p.tables e below (T29.setTop (mkF m 204 #[.val (.int p1), .val (.int p2), .val (.int (p2 &&& (3 : Int32))), .unset, .unset, .unset, .unset] [(.ref a4)])) _
        refine XS.dup X29.here hx rfl (hb hby at_204) rfl rfl ?_
        show Steps p.tables e below (T29.setTop (mkF m 205 #[.val (.int p1), .val (.int p2), .val (.int (p2 &&& (3 : Int32))), .unset, .unset, .unset, .unset] [(.ref a4), (.ref a4)])) _
        refine XS.bipush X29.here hx rfl (hb hby at_205) ?_
        show Steps p.tables e below (T29.setTop (mkF m 207 #[.val (.int p1), .val (.int p2), .val (.int (p2 &&& (3 : Int32))), .unset, .unset, .unset, .unset] [(.int (25 : Int32)), (.ref a4), (.ref a4)])) _
        refine X29.ldcI hx hown (v := (65008 : Int32)) (mvT hZ (hw _ (List.mem_of_getElem? (i := 4) rfl))) rfl (hb hby at_207) ?_
        show Steps p.tables e below (T29.setTop (mkF m 209 #[.val (.int p1), .val (.int p2), .val (.int (p2 &&& (3 : Int32))), .unset, .unset, .unset, .unset] [(.int (65008 : Int32)), (.int (25 : Int32)), (.ref a4), (.ref a4)])) _
        refine st30 _ ?_
        show Steps p.tables e below (T30.setTop (mkF m 210 #[.val (.int p1), .val (.int p2), .val (.int (p2 &&& (3 : Int32))), .unset, .unset, .unset, .unset] [(.ref a4)])) _
        refine XS.dup X30.here hx rfl (hb hby at_210) rfl rfl ?_
        show Steps p.tables e below (T30.setTop (mkF m 211 #[.val (.int p1), .val (.int p2), .val (.int (p2 &&& (3 : Int32))), .unset, .unset, .unset, .unset] [(.ref a4), (.ref a4)])) _
        refine XS.bipush X30.here hx rfl (hb hby at_211) ?_
        show Steps p.tables e below (T30.setTop (mkF m 213 #[.val (.int p1), .val (.int p2), .val (.int (p2 &&& (3 : Int32))), .unset, .unset, .unset, .unset] [(.int (26 : Int32)), (.ref a4), (.ref a4)])) _
        refine X30.ldcI hx hown (v := (65533 : Int32)) (mvT hZ (hw _ (List.mem_of_getElem? (i := 5) rfl))) rfl (hb hby at_213) ?_
        show Steps p.tables e below (T30.setTop (mkF m 215 #[.val (.int p1), .val (.int p2), .val (.int (p2 &&& (3 : Int32))), .unset, .unset, .unset, .unset] [(.int (65533 : Int32)), (.int (26 : Int32)), (.ref a4), (.ref a4)])) _
        refine st31 _ ?_
        show Steps p.tables e below (T31.setTop (mkF m 216 #[.val (.int p1), .val (.int p2), .val (.int (p2 &&& (3 : Int32))), .unset, .unset, .unset, .unset] [(.ref a4)])) _
        refine XS.dup X31.here hx rfl (hb hby at_216) rfl rfl ?_
        show Steps p.tables e below (T31.setTop (mkF m 217 #[.val (.int p1), .val (.int p2), .val (.int (p2 &&& (3 : Int32))), .unset, .unset, .unset, .unset] [(.ref a4), (.ref a4)])) _
        refine XS.bipush X31.here hx rfl (hb hby at_217) ?_
        show Steps p.tables e below (T31.setTop (mkF m 219 #[.val (.int p1), .val (.int p2), .val (.int (p2 &&& (3 : Int32))), .unset, .unset, .unset, .unset] [(.int (27 : Int32)), (.ref a4), (.ref a4)])) _
        refine X31.ldcI hx hown (v := (65536 : Int32)) (mvT hZ (hw _ (List.mem_of_getElem? (i := 6) rfl))) rfl (hb hby at_219) ?_
        show Steps p.tables e below (T31.setTop (mkF m 221 #[.val (.int p1), .val (.int p2), .val (.int (p2 &&& (3 : Int32))), .unset, .unset, .unset, .unset] [(.int (65536 : Int32)), (.int (27 : Int32)), (.ref a4), (.ref a4)])) _
        refine st32 _ ?_
        show Steps p.tables e below (T32.setTop (mkF m 222 #[.val (.int p1), .val (.int p2), .val (.int (p2 &&& (3 : Int32))), .unset, .unset, .unset, .unset] [(.ref a4)])) _
        refine XS.dup X32.here hx rfl (hb hby at_222) rfl rfl ?_
        show Steps p.tables e below (T32.setTop (mkF m 223 #[.val (.int p1), .val (.int p2), .val (.int (p2 &&& (3 : Int32))), .unset, .unset, .unset, .unset] [(.ref a4), (.ref a4)])) _
        refine XS.bipush X32.here hx rfl (hb hby at_223) ?_
        show Steps p.tables e below (T32.setTop (mkF m 225 #[.val (.int p1), .val (.int p2), .val (.int (p2 &&& (3 : Int32))), .unset, .unset, .unset, .unset] [(.int (28 : Int32)), (.ref a4), (.ref a4)])) _
        refine X32.ldcI hx hown (v := (983039 : Int32)) (mvT hZ (hw _ (List.mem_of_getElem? (i := 7) rfl))) rfl (hb hby at_225) ?_
        show Steps p.tables e below (T32.setTop (mkF m 227 #[.val (.int p1), .val (.int p2), .val (.int (p2 &&& (3 : Int32))), .unset, .unset, .unset, .unset] [(.int (983039 : Int32)), (.int (28 : Int32)), (.ref a4), (.ref a4)])) _
        refine st33 _ ?_
        show Steps p.tables e below (T33.setTop (mkF m 228 #[.val (.int p1), .val (.int p2), .val (.int (p2 &&& (3 : Int32))), .unset, .unset, .unset, .unset] [(.ref a4)])) _
        refine XS.dup X33.here hx rfl (hb hby at_228) rfl rfl ?_
        show Steps p.tables e below (T33.setTop (mkF m 229 #[.val (.int p1), .val (.int p2), .val (.int (p2 &&& (3 : Int32))), .unset, .unset, .unset, .unset] [(.ref a4), (.ref a4)])) _
        refine XS.bipush X33.here hx rfl (hb hby at_229) ?_
        show Steps p.tables e below (T33.setTop (mkF m 231 #[.val (.int p1), .val (.int p2), .val (.int (p2 &&& (3 : Int32))), .unset, .unset, .unset, .unset] [(.int (29 : Int32)), (.ref a4), (.ref a4)])) _
        refine X33.ldcI hx hown (v := (2147483646 : Int32)) (mvT hZ (hw _ (List.mem_of_getElem? (i := 8) rfl))) rfl (hb hby at_231) ?_
        show Steps p.tables e below (T33.setTop (mkF m 233 #[.val (.int p1), .val (.int p2), .val (.int (p2 &&& (3 : Int32))), .unset, .unset, .unset, .unset] [(.int (2147483646 : Int32)), (.int (29 : Int32)), (.ref a4), (.ref a4)])) _
        refine st34 _ ?_
        show Steps p.tables e below (T34.setTop (mkF m 234 #[.val (.int p1), .val (.int p2), .val (.int (p2 &&& (3 : Int32))), .unset, .unset, .unset, .unset] [(.ref a4)])) _
        refine XS.dup X34.here hx rfl (hb hby at_234) rfl rfl ?_
        show Steps p.tables e below (T34.setTop (mkF m 235 #[.val (.int p1), .val (.int p2), .val (.int (p2 &&& (3 : Int32))), .unset, .unset, .unset, .unset] [(.ref a4), (.ref a4)])) _
        refine XS.bipush X34.here hx rfl (hb hby at_235) ?_
        show Steps p.tables e below (T34.setTop (mkF m 237 #[.val (.int p1), .val (.int p2), .val (.int (p2 &&& (3 : Int32))), .unset, .unset, .unset, .unset] [(.int (30 : Int32)), (.ref a4), (.ref a4)])) _
        refine X34.ldcI hx hown (v := (-2147483647 : Int32)) (mvT hZ (hw _ (List.mem_of_getElem? (i := 9) rfl))) rfl (hb hby at_237) ?_
        show Steps p.tables e below (T34.setTop (mkF m 239 #[.val (.int p1), .val (.int p2), .val (.int (p2 &&& (3 : Int32))), .unset, .unset, .unset, .unset] [(.int (-2147483647 : Int32)), (.int (30 : Int32)), (.ref a4), (.ref a4)])) _
        refine st35 _ ?_
        show Steps p.tables e below (T35.setTop (mkF m 240 #[.val (.int p1), .val (.int p2), .val (.int (p2 &&& (3 : Int32))), .unset, .unset, .unset, .unset] [(.ref a4)])) _
        refine XS.astore X35.here hx rfl (hb hby at_240) rfl rfl (l' := #[.val (.int p1), .val (.int p2), .val (.int (p2 &&& (3 : Int32))), .unset, .val (.ref a4), .unset, .unset]) rfl ?_
        show Steps p.tables e below (T35.setTop (mkF m 242 #[.val (.int p1), .val (.int p2), .val (.int (p2 &&& (3 : Int32))), .unset, .val (.ref a4), .unset, .unset] [])) _
        refine XS.iloadN X35.here hx rfl (hb hby at_242) rfl ?_
        show Steps p.tables e below (T35.setTop (mkF m 243 #[.val (.int p1), .val (.int p2), .val (.int (p2 &&& (3 : Int32))), .unset, .val (.ref a4), .unset, .unset] [(.int p1)])) _
        refine X35.ldcI hx hown (v := (2147483647 : Int32)) (mvT hZ (hw _ (List.mem_of_getElem? (i := 10) rfl))) rfl (hb hby at_243) ?_
        show Steps p.tables e below (T35.setTop (mkF m 245 #[.val (.int p1), .val (.int p2), .val (.int (p2 &&& (3 : Int32))), .unset, .val (.ref a4), .unset, .unset] [(.int (2147483647 : Int32)), (.int p1)])) _
        refine XS.iand X35.here hx rfl (hb hby at_245) rfl ?_
        show Steps p.tables e below (T35.setTop (mkF m 246 #[.val (.int p1), .val (.int p2), .val (.int (p2 &&& (3 : Int32))), .unset, .val (.ref a4), .unset, .unset] [(.int (p1 &&& (2147483647 : Int32)))])) _
        refine XS.bipush X35.here hx rfl (hb hby at_246) ?_
        show Steps p.tables e below (T35.setTop (mkF m 248 #[.val (.int p1), .val (.int p2), .val (.int (p2 &&& (3 : Int32))), .unset, .val (.ref a4), .unset, .unset] [(.int (31 : Int32)), (.int (p1 &&& (2147483647 : Int32)))])) _
        refine XS.irem X35.here hx rfl (hb hby at_248) rfl (by decide) ?_
        show Steps p.tables e below (T35.setTop (mkF m 249 #[.val (.int p1), .val (.int p2), .val (.int (p2 &&& (3 : Int32))), .unset, .val (.ref a4), .unset, .unset] [(.int ((p1 &&& (2147483647 : Int32)) - ((p1 &&& (2147483647 : Int32)) / (31 : Int32)) * (31 : Int32)))])) _
        refine XS.istore X35.here hx rfl (hb hby at_249) rfl (l' := #[.val (.int p1), .val (.int p2), .val (.int (p2 &&& (3 : Int32))), .unset, .val (.ref a4), .val (.int ((p1 &&& (2147483647 : Int32)) - ((p1 &&& (2147483647 : Int32)) / (31 : Int32)) * (31 : Int32))), .unset]) rfl ?_
        show Steps p.tables e below (T35.setTop (mkF m 251 #[.val (.int p1), .val (.int p2), .val (.int (p2 &&& (3 : Int32))), .unset, .val (.ref a4), .val (.int ((p1 &&& (2147483647 : Int32)) - ((p1 &&& (2147483647 : Int32)) / (31 : Int32)) * (31 : Int32))), .unset] [])) _
        refine XS.iloadN X35.here hx rfl (hb hby at_251) rfl ?_
        show Steps p.tables e below (T35.setTop (mkF m 252 #[.val (.int p1), .val (.int p2), .val (.int (p2 &&& (3 : Int32))), .unset, .val (.ref a4), .val (.int ((p1 &&& (2147483647 : Int32)) - ((p1 &&& (2147483647 : Int32)) / (31 : Int32)) * (31 : Int32))), .unset] [(.int p2)])) _
        refine XS.iconst X35.here hx rfl (hb hby at_252) ?_
        show Steps p.tables e below (T35.setTop (mkF m 253 #[.val (.int p1), .val (.int p2), .val (.int (p2 &&& (3 : Int32))), .unset, .val (.ref a4), .val (.int ((p1 &&& (2147483647 : Int32)) - ((p1 &&& (2147483647 : Int32)) / (31 : Int32)) * (31 : Int32))), .unset] [(.int (2 : Int32)), (.int p2)])) _
        refine XT.iushr X35.here hx rfl (hb hby at_253) rfl ?_
        show Steps p.tables e below (T35.setTop (mkF m 254 #[.val (.int p1), .val (.int p2), .val (.int (p2 &&& (3 : Int32))), .unset, .val (.ref a4), .val (.int ((p1 &&& (2147483647 : Int32)) - ((p1 &&& (2147483647 : Int32)) / (31 : Int32)) * (31 : Int32))), .unset] [(.int (XT.ushr p2 (2 : Int32)))])) _
        refine XS.iconst X35.here hx rfl (hb hby at_254) ?_
        show Steps p.tables e below (T35.setTop (mkF m 255 #[.val (.int p1), .val (.int p2), .val (.int (p2 &&& (3 : Int32))), .unset, .val (.ref a4), .val (.int ((p1 &&& (2147483647 : Int32)) - ((p1 &&& (2147483647 : Int32)) / (31 : Int32)) * (31 : Int32))), .unset] [(.int (3 : Int32)), (.int (XT.ushr p2 (2 : Int32)))])) _
        refine XS.irem X35.here hx rfl (hb hby at_255) rfl (by decide) ?_
        show Steps p.tables e below (T35.setTop (mkF m 256 #[.val (.int p1), .val (.int p2), .val (.int (p2 &&& (3 : Int32))), .unset, .val (.ref a4), .val (.int ((p1 &&& (2147483647 : Int32)) - ((p1 &&& (2147483647 : Int32)) / (31 : Int32)) * (31 : Int32))), .unset] [(.int ((XT.ushr p2 (2 : Int32)) - ((XT.ushr p2 (2 : Int32)) / (3 : Int32)) * (3 : Int32)))])) _
        refine XS.iconst X35.here hx rfl (hb hby at_256) ?_
        show Steps p.tables e below (T35.setTop (mkF m 257 #[.val (.int p1), .val (.int p2), .val (.int (p2 &&& (3 : Int32))), .unset, .val (.ref a4), .val (.int ((p1 &&& (2147483647 : Int32)) - ((p1 &&& (2147483647 : Int32)) / (31 : Int32)) * (31 : Int32))), .unset] [(.int (1 : Int32)), (.int ((XT.ushr p2 (2 : Int32)) - ((XT.ushr p2 (2 : Int32)) / (3 : Int32)) * (3 : Int32)))])) _
        refine XS.isub X35.here hx rfl (hb hby at_257) rfl ?_
        show Steps p.tables e below (T35.setTop (mkF m 258 #[.val (.int p1), .val (.int p2), .val (.int (p2 &&& (3 : Int32))), .unset, .val (.ref a4), .val (.int ((p1 &&& (2147483647 : Int32)) - ((p1 &&& (2147483647 : Int32)) / (31 : Int32)) * (31 : Int32))), .unset] [(.int (((XT.ushr p2 (2 : Int32)) - ((XT.ushr p2 (2 : Int32)) / (3 : Int32)) * (3 : Int32)) - (1 : Int32)))])) _
        refine XS.istore X35.here hx rfl (hb hby at_258) rfl (l' := #[.val (.int p1), .val (.int p2), .val (.int (p2 &&& (3 : Int32))), .unset, .val (.ref a4), .val (.int ((p1 &&& (2147483647 : Int32)) - ((p1 &&& (2147483647 : Int32)) / (31 : Int32)) * (31 : Int32))), .val (.int (((XT.ushr p2 (2 : Int32)) - ((XT.ushr p2 (2 : Int32)) / (3 : Int32)) * (3 : Int32)) - (1 : Int32)))]) rfl ?_
        show Steps p.tables e below (T35.setTop (mkF m 260 #[.val (.int p1), .val (.int p2), .val (.int (p2 &&& (3 : Int32))), .unset, .val (.ref a4), .val (.int ((p1 &&& (2147483647 : Int32)) - ((p1 &&& (2147483647 : Int32)) / (31 : Int32)) * (31 : Int32))), .val (.int (((XT.ushr p2 (2 : Int32)) - ((XT.ushr p2 (2 : Int32)) / (3 : Int32)) * (3 : Int32)) - (1 : Int32)))] [])) _
        refine XS.aload X35.here hx rfl (hb hby at_260) rfl rfl ?_
        show Steps p.tables e below (T35.setTop (mkF m 262 #[.val (.int p1), .val (.int p2), .val (.int (p2 &&& (3 : Int32))), .unset, .val (.ref a4), .val (.int ((p1 &&& (2147483647 : Int32)) - ((p1 &&& (2147483647 : Int32)) / (31 : Int32)) * (31 : Int32))), .val (.int (((XT.ushr p2 (2 : Int32)) - ((XT.ushr p2 (2 : Int32)) / (3 : Int32)) * (3 : Int32)) - (1 : Int32)))] [(.ref a4)])) _
        refine XS.iload X35.here hx rfl (hb hby at_262) rfl ?_
        show Steps p.tables e below (T35.setTop (mkF m 264 #[.val (.int p1), .val (.int p2), .val (.int (p2 &&& (3 : Int32))), .unset, .val (.ref a4), .val (.int ((p1 &&& (2147483647 : Int32)) - ((p1 &&& (2147483647 : Int32)) / (31 : Int32)) * (31 : Int32))), .val (.int (((XT.ushr p2 (2 : Int32)) - ((XT.ushr p2 (2 : Int32)) / (3 : Int32)) * (3 : Int32)) - (1 : Int32)))] [(.int ((p1 &&& (2147483647 : Int32)) - ((p1 &&& (2147483647 : Int32)) / (31 : Int32)) * (31 : Int32))), (.ref a4)])) _
        refine st36 _ ?_
        show Steps p.tables e below (T35.setTop (mkF m 265 #[.val (.int p1), .val (.int p2), .val (.int (p2 &&& (3 : Int32))), .unset, .val (.ref a4), .val (.int ((p1 &&& (2147483647 : Int32)) - ((p1 &&& (2147483647 : Int32)) / (31 : Int32)) * (31 : Int32))), .val (.int (((XT.ushr p2 (2 : Int32)) - ((XT.ushr p2 (2 : Int32)) / (3 : Int32)) * (3 : Int32)) - (1 : Int32)))] [(.int z36)])) _
        refine XS.iload X35.here hx rfl (hb hby at_265) rfl ?_
        show Steps p.tables e below (T35.setTop (mkF m 267 #[.val (.int p1), .val (.int p2), .val (.int (p2 &&& (3 : Int32))), .unset, .val (.ref a4), .val (.int ((p1 &&& (2147483647 : Int32)) - ((p1 &&& (2147483647 : Int32)) / (31 : Int32)) * (31 : Int32))), .val (.int (((XT.ushr p2 (2 : Int32)) - ((XT.ushr p2 (2 : Int32)) / (3 : Int32)) * (3 : Int32)) - (1 : Int32)))] [(.int (((XT.ushr p2 (2 : Int32)) - ((XT.ushr p2 (2 : Int32)) / (3 : Int32)) * (3 : Int32)) - (1 : Int32))), (.int z36)])) _
        refine XS.iadd X35.here hx rfl (hb hby at_267) rfl ?_
        show Steps p.tables e below (T35.setTop (mkF m 268 #[.val (.int p1), .val (.int p2), .val (.int (p2 &&& (3 : Int32))), .unset, .val (.ref a4), .val (.int ((p1 &&& (2147483647 : Int32)) - ((p1 &&& (2147483647 : Int32)) / (31 : Int32)) * (31 : Int32))), .val (.int (((XT.ushr p2 (2 : Int32)) - ((XT.ushr p2 (2 : Int32)) / (3 : Int32)) * (3 : Int32)) - (1 : Int32)))] [(.int (z36 + (((XT.ushr p2 (2 : Int32)) - ((XT.ushr p2 (2 : Int32)) / (3 : Int32)) * (3 : Int32)) - (1 : Int32))))])) _
        refine XS.istoreN X35.here hx rfl (hb hby at_268) rfl (l' := #[.val (.int p1), .val (.int p2), .val (.int (p2 &&& (3 : Int32))), .val (.int (z36 + (((XT.ushr p2 (2 : Int32)) - ((XT.ushr p2 (2 : Int32)) / (3 : Int32)) * (3 : Int32)) - (1 : Int32)))), .val (.ref a4), .val (.int ((p1 &&& (2147483647 : Int32)) - ((p1 &&& (2147483647 : Int32)) / (31 : Int32)) * (31 : Int32))), .val (.int (((XT.ushr p2 (2 : Int32)) - ((XT.ushr p2 (2 : Int32)) / (3 : Int32)) * (3 : Int32)) - (1 : Int32)))]) rfl ?_
        show Steps p.tables e below (T35.setTop (mkF m 269 #[.val (.int p1), .val (.int p2), .val (.int (p2 &&& (3 : Int32))), .val (.int (z36 + (((XT.ushr p2 (2 : Int32)) - ((XT.ushr p2 (2 : Int32)) / (3 : Int32)) * (3 : Int32)) - (1 : Int32)))), .val (.ref a4), .val (.int ((p1 &&& (2147483647 : Int32)) - ((p1 &&& (2147483647 : Int32)) / (31 : Int32)) * (31 : Int32))), .val (.int (((XT.ushr p2 (2 : Int32)) - ((XT.ushr p2 (2 : Int32)) / (3 : Int32)) * (3 : Int32)) - (1 : Int32)))] [])) _
        exact st
set_option maxRecDepth 65536 in
set_option maxHeartbeats 40000000 in
theorem comes_1 {Post : Tables → Env → Array Value → State → Outcome → State → Prop} (hpost : ∀ tb e args s v u, (limb_1_1.after args s (.returned v) u = true ∧ limb_1_2.after args s (.returned v) u = true ∧ True) → FrameEnd s (.returned v) u (Jvm.fieldLocs frame_1_writes args s ++ Jvm.arrayLocs frame_1_arrays args s ++ Jvm.staticLocs frame_1_statics s) 16 128 → Post tb e args s (.returned v) u) :
    ArmFor flags0 classFile x code maxLocals ret World_1 tables_1 room_1 Calls_1 rest_1 Pre_1 Post := by
  intro l hfl _ _ p e ha hc hk s m args below hf hA hF happ hP
  obtain ⟨hcalls, hrest, hpre⟩ := hP
  obtain ⟨-, -, -, hnamed, -, -, -, hat⟩ := (Spec.applies_iff hf).mp happ
  obtain ⟨hg, hn⟩ := and_e (Cond.before_iff.mp (show (Jvm.Cond.and given_1 narrow_1).before args s = true from hpre))
  obtain ⟨gc, g0⟩ := and_e hg
  obtain ⟨ga0, g1⟩ := and_e g0
  obtain ⟨w0, w1, rfl⟩ : ∃ w0 w1 : Value, args = #[w0, w1] := by
    have hs : args.size = 2 := by simpa [Cond.value, given_1] using gc
    obtain ⟨L⟩ := args
    match L, hs with
    | [w0, w1], _ => exact ⟨w0, w1, rfl⟩
  have hw := fun d (hd : d ∈ tables_1) => atoms_spec (ws := Jvm.Cond.code x code maxLocals ret :: tables_1) hat d (List.mem_cons_of_mem _ hd)
  obtain ⟨i0, ei0⟩ := is_v ga0
  obtain rfl : w0 = (.int i0) := Option.some.inj ei0
  obtain ⟨i1, ei1⟩ := is_v g1
  obtain rfl : w1 = (.int i1) := Option.some.inj ei1
  obtain ⟨n, o, h1, h2, h3, _, L, rfl, ⟨rfl, N⟩, hq⟩ := rm0 l s _ hw tables_1 i0 i1 s.heap s.heap.size (Nat.le_refl _) p e ha hc hk s m _ below hf ((Spec.applies_iff_loose hf).mp happ).1 ⟨rfl, State.Warmed39.refl s, rfl⟩ trivial
  refine ⟨n, _, h1, h2, h3, hpost _ _ _ _ _ _ ⟨Cond.after_iff.mpr rfl, Cond.after_iff.mpr (eq_i res_at (Term.int_eval (1)) rfl), trivial⟩ ⟨hq.1, hq.2.1, (hq.2.2.sift fun y hy => Or.inr (N y hy)).mono (by decide) (by decide)⟩⟩
theorem main_1_1 : Claimed_1_1 := comes_1 fun _ _ _ _ _ _ h hF => ⟨h.1, hF⟩
theorem main_1_2 : Claimed_1_2 := comes_1 fun _ _ _ _ _ _ h hF => ⟨h.2.1, hF⟩
end Jvm.Pilot.@@N@@
namespace Jvm.Pilot.@@N@@
open Jvm Jvm.ClassFile Sem Op Lib Jvm.Free Jvm.Stand Jvm.Pilot.@@N@@.Jvm.D
/-! MADE BY PROGRAM (witnessworld.py) out of the Statement's table words and the real class files: 9 classes; the members and pool entries that the words name. The judged class is class 1, her method 1. -/
namespace start1
open Jvm.ClassFile
def u (s : String) : CpInfo := .utf8 (stringToUtf16 s)
/-- a pool by its gaps: so many unusable entries, then the entry; so many at the end -/
def gap : Nat → List CpInfo → List CpInfo
  | 0, r => r
  | n + 1, r => .unusable :: gap n r
def poolList (es : List (Nat × CpInfo)) (last : Nat) : List CpInfo := es.foldr (fun e r => gap e.1 (e.2 :: r)) (gap last [])
def pool (es : List (Nat × CpInfo)) (last : Nat) : Array CpInfo := ⟨poolList es last⟩
def fileOf (pool : Array CpInfo) (this : Nat) (attrs : Array Attribute := #[]) (ms : Array MethodInfo := #[]) (fl : Nat := 33) (sup : Nat := 0) (ifs : Array Nat := #[]) (fds : Array FieldInfo := #[]) : ClassFile where
  minorVersion := 0
  majorVersion := 65
  constantPool := pool
  accessFlags := fl
  thisClass := this
  superClass := sup
  interfaces := ifs
  fields := fds
  methods := ms
  attributes := attrs
def plain (name : String) (sup : Option ClassId) : Class where
  name := name
  kind := .ordinary
  loader := none
  accessFlags := 33
  super := sup
  interfaces := #[]
  cf := none
  fields := #[]
  methods := #[]
  instanceTypes := #[]
  staticTypes := #[]
  resolved := #[]
  callSites := []
  init := .initialized
  statics := none
  mirror := none

def pool0 : Array CpInfo := pool [(5, u "<init>"), (0, u "()V"), (1, .class_ 10), (1, u "java/lang/Object")] 113

def k0m0 : Method := { name := "<init>", desc := "()V", sig := { parameters := [], returnType := none }, accessFlags := 1, code := none }
/-- java/lang/Object -/
def k0 : Class := { plain "java/lang/Object" none with
  accessFlags := 33
  interfaces := #[]
  cf := some (fileOf pool0 8 #[] #[{ accessFlags := 1, nameIndex := 5, descriptorIndex := 6, attributes := #[] }] 33 0 #[] #[])
  fields := #[]
  methods := #[k0m0]
  instanceTypes := #[]
  staticTypes := #[]
  resolved := Array.replicate 124 none
  statics := none }

def pool1 : Array CpInfo := pool [(2, .class_ 4), (1, u "java/lang/Object"), (0, u "<init>"), (0, u "()V"), (0, .integer 65535), (0, .integer 1048575), (0, .integer 55295), (0, .integer 63744), (0, .integer 64975), (0, .integer 65008), (0, .integer 65533), (0, .integer 65536), (0, .integer 983039), (0, .integer 2147483646), (0, .integer 2147483649), (0, .integer 2147483647), (0, .methodref 20 21), (0, .class_ 22), (0, .nameAndType 23 24), (0, u "com/example/libxdm/libxdm/model/XmlNames"), (0, u "isNameStart"), (0, u "(I)Z"), (0, .methodref 26 27), (0, .class_ 28), (0, .nameAndType 29 24), (0, u "com/example/libxdm/libxdm/model/XmlNamesIsNameStartPinLaw"), (0, u "ref"), (0, .integer 55296), (0, .integer 63743), (0, .integer 64976), (0, .integer 65007), (0, .integer 65534), (2, u "law"), (0, u "(II)Z")] 3

def k1m0 : Method := { name := "<init>", desc := "()V", sig := { parameters := [], returnType := none }, accessFlags := 2, code := none }
def k1c1 : Code := { maxStack := 4, maxLocals := 7, code := code, exceptionTable := #[], attributes := #[] }
def k1m1 : Method := { name := "law", desc := "(II)Z", sig := { parameters := [.int, .int], returnType := some .boolean }, accessFlags := 9, code := some k1c1 }
def k1c2 : Code := { maxStack := 2, maxLocals := 1, code := method_3_code, exceptionTable := #[], attributes := #[] }
def k1m2 : Method := { name := "ref", desc := "(I)Z", sig := { parameters := [.int], returnType := some .boolean }, accessFlags := 10, code := some k1c2 }
/-- com/example/libxdm/libxdm/model/XmlNamesIsNameStartPinLaw -/
def k1 : Class := { plain "com/example/libxdm/libxdm/model/XmlNamesIsNameStartPinLaw" (some 0) with
  accessFlags := 49
  interfaces := #[]
  cf := some (fileOf pool1 26 #[] #[{ accessFlags := 2, nameIndex := 5, descriptorIndex := 6, attributes := #[] }, { accessFlags := 9, nameIndex := 37, descriptorIndex := 38, attributes := #[] }, { accessFlags := 10, nameIndex := 29, descriptorIndex := 24, attributes := #[] }] 49 2 #[] #[])
  fields := #[]
  methods := #[k1m0, k1m1, k1m2]
  instanceTypes := #[]
  staticTypes := #[]
  resolved := Array.replicate 42 none
  statics := none }

def pool2 : Array CpInfo := pool [(2, .class_ 4), (1, u "java/lang/Object"), (0, u "<init>"), (0, u "()V"), (0, .integer 55295), (1, .integer 65533), (0, .integer 65536), (12, .class_ 25), (1, u "com/example/libxdm/libxdm/model/XmlNames"), (1, u "(I)Z"), (14, u "isNameStart"), (8, .integer 63744), (0, .integer 64975), (0, .integer 65008), (0, .integer 983039), (0, u "XML_NAMESPACE"), (0, u "Ljava/lang/String;")] 13

def k2m0 : Method := { name := "<init>", desc := "()V", sig := { parameters := [], returnType := none }, accessFlags := 2, code := none }
def k2c1 : Code := { maxStack := 2, maxLocals := 1, code := prog_162_method_6_code, exceptionTable := #[], attributes := #[] }
def k2m1 : Method := { name := "isNameStart", desc := "(I)Z", sig := { parameters := [.int], returnType := some .boolean }, accessFlags := 9, code := some k2c1 }
/-- com/example/libxdm/libxdm/model/XmlNames -/
def k2 : Class := { plain "com/example/libxdm/libxdm/model/XmlNames" (some 0) with
  accessFlags := 49
  interfaces := #[]
  cf := some (fileOf pool2 23 #[] #[{ accessFlags := 2, nameIndex := 5, descriptorIndex := 6, attributes := #[] }, { accessFlags := 9, nameIndex := 42, descriptorIndex := 27, attributes := #[] }] 49 2 #[] #[{ accessFlags := 25, nameIndex := 55, descriptorIndex := 56, attributes := #[] }])
  fields := #[{ name := "XML_NAMESPACE", type := (.object "java/lang/String"), accessFlags := 25, slot := 0, constantValue := 0 }]
  methods := #[k2m0, k2m1]
  instanceTypes := #[]
  staticTypes := #[(.object "java/lang/String")]
  resolved := Array.replicate 70 none
  statics := none }

def pool3 : Array CpInfo := pool [(1, u "java/lang/Cloneable"), (0, .class_ 1), (0, u "java/lang/Object"), (0, .class_ 3)] 3

/-- java/lang/Cloneable -/
def k3 : Class := { plain "java/lang/Cloneable" (some 0) with
  accessFlags := 1537
  interfaces := #[]
  cf := some (fileOf pool3 2 #[] #[] 1537 4 #[] #[])
  fields := #[]
  methods := #[]
  instanceTypes := #[]
  staticTypes := #[]
  resolved := Array.replicate 8 none
  statics := none }

def pool4 : Array CpInfo := pool [(1, u "java/io/Serializable"), (0, .class_ 1), (0, u "java/lang/Object"), (0, .class_ 3)] 3

/-- java/io/Serializable -/
def k4 : Class := { plain "java/io/Serializable" (some 0) with
  accessFlags := 1537
  interfaces := #[]
  cf := some (fileOf pool4 2 #[] #[] 1537 4 #[] #[])
  fields := #[]
  methods := #[]
  instanceTypes := #[]
  staticTypes := #[]
  resolved := Array.replicate 8 none
  statics := none }

/-- the primitive byte -/
def k5 : Class := { plain "byte" none with kind := .primitive 'B', accessFlags := 0x411 }
/-- [B -/
def k6 : Class := { plain "[B" (some 0) with kind := .array 5 .byte, interfaces := #[3, 4], accessFlags := 1041 }

/-- the primitive int -/
def k7 : Class := { plain "int" none with kind := .primitive 'I', accessFlags := 0x411 }
/-- [I -/
def k8 : Class := { plain "[I" (some 0) with kind := .array 7 .int, interfaces := #[3, 4], accessFlags := 1041 }

def heap : Heap := #[]
def classes : Array Class := #[k0, k1, k2, k3, k4, k5, k6, k7, k8]
def interned : List (Array UInt16 × Addr) := []
def slotsUsed : Nat := 0
def theMethod : MethodId := ⟨1, 1⟩
def args0 : Array Value := #[.int 65, .int 3]
def aboutOver (below : List Frame) : State where
  vm := { classes := classes, interned := interned.toArray }
  heap := heap
  slotsUsed := slotsUsed
  threads := #[{ frames := .invoking theMethod args0 :: below }]
def below0 : List Frame := [.native { method := ⟨0, 0⟩, args := #[] }]
def about1 : State := aboutOver below0
def p0 : Program := .bare "" "" ""
def e0 : Env := launch0.env 0 0 0
theorem w_frames : about1.frames = Frame.invoking theMethod args0 :: below0 := rfl
set_option maxRecDepth 65536 in
theorem w_args : argsFit about1.vm theMethod args0 = true := by decide +kernel
set_option maxRecDepth 65536 in
theorem w_heap : heapFits about1 = true := by decide +kernel
set_option maxRecDepth 65536 in
theorem w_runnable : about1.curStatus? = some .runnable := by decide +kernel
set_option maxRecDepth 65536 in
theorem w_alone : about1.alone = true := by decide +kernel
set_option maxRecDepth 65536 in
theorem w_named : about1.methodNamed? x = some theMethod := by decide +kernel
set_option maxRecDepth 65536 in
theorem w_hears : about1.hears theMethod below0 = true := by decide +kernel
set_option maxRecDepth 65536 in
theorem w_ripe : about1.ripe theMethod args0 below0 = true := by decide +kernel
theorem w_running : about1.status = .running := rfl
set_option maxRecDepth 65536 in
theorem w_room : about1.hasRoom e0.platform room_1 = true :=
  launch0.hasRoom_least _ room_1 (by decide +kernel) (by decide +kernel) (by decide +kernel) (by decide +kernel) (by decide +kernel) (by decide +kernel)
theorem allAtoms_all (ts : List Jvm.Cond) (a : Array Jvm.Value) (st : Jvm.State) : (allAtoms ts).before a st = ts.all (fun c => c.before a st) := by
  induction ts with
  | nil => rfl
  | cons c t ih =>
    show (Jvm.Cond.and c (allAtoms t)).before a st = _
    rw [Jvm.Cond.before_and, ih, List.all_cons]
def words1 : List Jvm.Cond := Jvm.Cond.code x code maxLocals ret :: tables_1
/-- a 'code' word, met by the world's own term for the bytes: nothing is compared byte by byte -/
theorem code_word {y : MethodName} {bytes : ByteArray} {mx : Nat} {rt : Option FieldType} {a : Array Value} {s : State} {m : MethodId} {meth : Method} {c : Code} (h1 : s.methodNamed? y = some m) (h2 : s.vm.method? m = some meth) (h3 : meth.code = some c) (h4 : c.code = bytes)
    (h5 : (c.maxLocals == mx && c.exceptionTable.isEmpty && decide (c.maxStack ≤ mostOperands) && decide (meth.sig.returnType = rt) && !meth.locks && decide (parseMethodDescriptor y.desc = some meth.sig)) = true) : (Jvm.Cond.code y bytes mx rt).before a s = true := by
  simp only [Bool.and_eq_true, beq_iff_eq, Bool.not_eq_true', decide_eq_true_eq] at h5
  obtain ⟨⟨⟨⟨⟨g1, g2⟩, g3⟩, g4⟩, g5⟩, g6⟩ := h5
  simp [Cond.before, Cond.holds, Cond.value, h1, h2, h3, h4, g1, g2, g3, g4, g5, g6]
def isCode : Jvm.Cond → Bool
  | .code _ _ _ _ => true
  | _ => false
theorem all_split {L : List Jvm.Cond} {P : Jvm.Cond → Bool} (h1 : L.all (fun c => isCode c || P c) = true) (h2 : ∀ c ∈ L.filter isCode, P c = true) : L.all P = true := by
  refine List.all_eq_true.mpr fun c hc => ?_
  have h := List.all_eq_true.mp h1 c hc
  rcases Bool.eq_false_or_eq_true (isCode c) with hi | hi
  · exact h2 c (List.mem_filter.mpr ⟨hc, hi⟩)
  · simpa [hi] using h
set_option maxRecDepth 65536 in
theorem w_c0 : (Jvm.Cond.code x code maxLocals ret).before args0 about1 = true := code_word (m := ⟨1, 1⟩) (meth := k1m1) (c := k1c1) (by decide +kernel) rfl rfl rfl (by decide +kernel)
set_option maxRecDepth 65536 in
theorem w_c1 : (Jvm.Cond.code ({ cls := "com/example/libxdm/libxdm/model/XmlNames", name := "isNameStart", desc := "(I)Z" } : Jvm.MethodName) prog_162_method_6_code (1 : Nat) (Option.some Jvm.ClassFile.FieldType.boolean)).before args0 about1 = true := code_word (m := ⟨2, 1⟩) (meth := k2m1) (c := k2c1) (by decide +kernel) rfl rfl rfl (by decide +kernel)
set_option maxRecDepth 65536 in
theorem w_c2 : (Jvm.Cond.code ({ cls := "com/example/libxdm/libxdm/model/XmlNamesIsNameStartPinLaw", name := "ref", desc := "(I)Z" } : Jvm.MethodName) method_3_code (1 : Nat) (Option.some Jvm.ClassFile.FieldType.boolean)).before args0 about1 = true := code_word (m := ⟨1, 2⟩) (meth := k1m2) (c := k1c2) (by decide +kernel) rfl rfl rfl (by decide +kernel)
def codes1 : List Jvm.Cond := [Jvm.Cond.code x code maxLocals ret, Jvm.Cond.code ({ cls := "com/example/libxdm/libxdm/model/XmlNames", name := "isNameStart", desc := "(I)Z" } : Jvm.MethodName) prog_162_method_6_code (1 : Nat) (Option.some Jvm.ClassFile.FieldType.boolean), Jvm.Cond.code ({ cls := "com/example/libxdm/libxdm/model/XmlNamesIsNameStartPinLaw", name := "ref", desc := "(I)Z" } : Jvm.MethodName) method_3_code (1 : Nat) (Option.some Jvm.ClassFile.FieldType.boolean)]
set_option maxRecDepth 65536 in
theorem codes_eq : words1.filter isCode = codes1 := rfl
theorem w_codes : ∀ c ∈ words1.filter isCode, c.before args0 about1 = true := by
  rw [codes_eq]
  intro c hc
  simp only [codes1, List.mem_cons, List.not_mem_nil, or_false] at hc
  rcases hc with rfl | rfl | rfl
  · exact w_c0
  · exact w_c1
  · exact w_c2
set_option maxRecDepth 65536 in
theorem w_t1 : (words1.take 24).all (fun c => isCode c || c.before args0 about1) = true := by decide +kernel
set_option maxRecDepth 65536 in
theorem w_t2 : (words1.drop 24).all (fun c => isCode c || c.before args0 about1) = true := by decide +kernel
theorem w_tables : (allAtoms (Jvm.Cond.code x code maxLocals ret :: tables_1)).before args0 about1 = true := by
  rw [allAtoms_all]
  show words1.all (fun c => c.before args0 about1) = true
  refine all_split ?_ w_codes
  rw [← List.take_append_drop 24 words1, List.all_append, w_t1, w_t2]
  rfl
set_option maxRecDepth 65536 in
theorem w_case : (Jvm.Cond.and given_1 narrow_1).before args0 about1 = true := by decide +kernel
theorem w_applies : (headSpec (Jvm.Cond.code x code maxLocals ret :: tables_1) room_1).applies x e0.platform about1 = true :=
  (Spec.applies_iff w_frames).mpr ⟨w_running, w_runnable, w_alone, w_named, w_hears, w_ripe, w_room, w_tables⟩
theorem atStart : AtStart classFile x code maxLocals ret World_1 tables_1 room_1 Calls_1 rest_1 Pre_1 launch0 p0 e0 about1 theMethod args0 below0 :=
  ⟨lists_1, trivial, launch0.admits_env _ _ _, launch0.least_env, fairChoices_fair.cas, fairChoices_fair.clock, w_frames, w_args, w_heap, w_applies, trivial, trivial, w_case⟩
end start1
theorem witness_1 : WitnessClaimed_1 := ⟨start1.p0, start1.e0, start1.about1, start1.theMethod, start1.args0, start1.below0, start1.atStart⟩
end Jvm.Pilot.@@N@@
