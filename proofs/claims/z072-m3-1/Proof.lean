import JvmDerived
import JvmDerived.Pilot.@@N@@Statement
import JvmDerived.Pilot.@@N@@Code
set_option linter.unusedVariables false
set_option linter.unusedSimpArgs false
namespace Jvm.RoadKit
open Sem ClassFile Op Lib Jvm.Stand Jvm.Free Jvm.LawKit
section New
variable {p : Program} {l : Launch} {e : Env} {R : Room} {s : State} {m : MethodId} {args : Array Value} {below : List Frame} {meth : Method} {c : Code} {T : State} {locs : List Loc} {cells slots : Nat}
theorem retI (X : Stand p l e R s m args below meth c T locs cells slots) (hx : p.tables.exec = Jvm.exec) {pc : Nat} {Ls : Array Slot} {z : Int32} {rest : List Value} (hret : meth.sig.returnType = some .int) (hd : decode c.code pc = .ok (.ireturn, 1)) {fs : List Frame}
    (hl : ∀ (f : JFrame) (acts : List Action), f.method = m → f.locked = none → f.entered = [] → (doReturn e (T.setTop f) acts (some (.int z))).1 = T.setFrames fs) : Steps p.tables e below (T.setTop (mkF m pc Ls (.int z :: rest))) (T.setFrames fs) := by
  have hm' : T.vm.method? m = some meth := X.method'
  have hn : narrow .int (.int z) = .int z := rfl
  show Steps p.tables e below (T.setTop { method := m, pc := pc, locals := Ls, stack := _ :: rest, locked := none }) _
  jvm_step X.here [X.here.top, hx, hd, hm', hret, hn]
  first | (intro acts; rw [hl _ acts rfl rfl rfl]) | rw [hl _ _ rfl rfl rfl]
  exact Steps.refl _
end New
end Jvm.RoadKit
namespace Jvm.Pilot.@@N@@
open Jvm Jvm.ClassFile Sem Op Lib Jvm.Free Jvm.Stand Jvm.LawKit Jvm.RoadKit Bundle Jvm.Pilot.@@N@@.Jvm.D
theorem pd_0 : parseMethodDescriptor "(I)I" = some ⟨[.int], some .int⟩ := by decide +kernel
theorem pd_1 : parseMethodDescriptor "(I)Z" = some ⟨[.int], some .boolean⟩ := by decide +kernel
theorem d2_0 : decode prog_4_method_5_code 0 = .ok (.iload_n 0, 1) := by decide +kernel
theorem d2_1 : decode prog_4_method_5_code 1 = .ok (.bipush 64, 2) := by decide +kernel
theorem d2_3 : decode prog_4_method_5_code 3 = .ok (.irem, 1) := by decide +kernel
theorem d2_4 : decode prog_4_method_5_code 4 = .ok (.ireturn, 1) := by decide +kernel
theorem d1_0 : decode prog_4_method_6_code 0 = .ok (.iload_n 0, 1) := by decide +kernel
theorem d1_1 : decode prog_4_method_6_code 1 = .ok (.invokestatic 17, 3) := by decide +kernel
theorem d1_4 : decode prog_4_method_6_code 4 = .ok (.ifCond .ne 7, 3) := by decide +kernel
theorem d1_7 : decode prog_4_method_6_code 7 = .ok (.iconst 1, 1) := by decide +kernel
theorem d1_8 : decode prog_4_method_6_code 8 = .ok (.goto 4, 3) := by decide +kernel
theorem d1_11 : decode prog_4_method_6_code 11 = .ok (.iconst 0, 1) := by decide +kernel
theorem d1_12 : decode prog_4_method_6_code 12 = .ok (.ireturn, 1) := by decide +kernel
def fO (p : Int32) : Int32 := if p % 64 = 0 then 1 else 0
def Q1 (Z : State) (p1 : Int32) (h0 : Heap) (n0 : Nat) (v : Option Value) (h : Heap) (L : List Loc) : Prop := v = some (.int (p1 % 64)) ∧ Fr n0 L ∧ h = h0
def Q2 (Z : State) (p1 : Int32) (h0 : Heap) (n0 : Nat) (v : Option Value) (h : Heap) (L : List Loc) : Prop := v = some (.int (fO p1)) ∧ Fr n0 L ∧ h = h0
theorem pn_2 : plainName "com/example/indagine/indagine/dataset/Attributes" = true := by first | (simp [plainName, overriddenIn]; done) | decide +kernel
theorem ef_2 (m : MethodId) (p1 : Int32) : entryFrame m #[(.int p1)] 1 = mkF m 0 #[.val (.int p1)] [] := by first | (simp [entryFrame, mkF, argsToLocals, Value.category]; done) | rfl
set_option maxRecDepth 65536 in
set_option maxHeartbeats 40000000 in
theorem rm1 (l : Launch) (Z : State) (a0 : Array Value) (hw : ∀ d ∈ tables_1, d.before a0 Z = true) (ws : List Jvm.Cond) (p1 : Int32)  (h0 : Heap) (n0 : Nat) (Z0 : n0 ≤ h0.size)  :
    MetFree l (⟨"com/example/indagine/indagine/dataset/Attributes", "sixtyFour", "(I)I"⟩ : MethodName) (head1 (Jvm.Cond.code (⟨"com/example/indagine/indagine/dataset/Attributes", "sixtyFour", "(I)I"⟩ : MethodName) prog_4_method_5_code 1 (some .int) :: ws) ({ frames := 0, cells := 0, slots := 0, locals := 0 } : Room)) (fun a U => a = #[(.int p1)] ∧ Z.Warmed39 U.vm ∧ U.heap = h0) (fun _ _ _ _ _ => True) (fun _ U o U' => ∃ v L, o = .returned v ∧ Q1 Z p1 h0 n0 v U'.heap L ∧ FrameEnd U o U' L ({ frames := 0, cells := 0, slots := 0, locals := 0 } : Room).cells ({ frames := 0, cells := 0, slots := 0, locals := 0 } : Room).slots) := by
  refine MetFree.of_bodySF (plainFor_of_name pn_2) hisR ?_
  intro p e s m args below meth c s₁ Bd hml0 hP hK
  obtain ⟨rfl, hZ, hh⟩ := hP
  have hx := Bd.exec
  have hby := Bd.bytes
  have hml : c.maxLocals = 1 := hml0
  have hown : s.vm.findClass "com/example/indagine/indagine/dataset/Attributes" = some m.cls := findClass_of_methodNamed Bd.named
  have hnm := (name_of_methodNamed Bd.named Bd.method).1
  have X0 : Stand p l e ({ frames := 0, cells := 0, slots := 0, locals := 0 } : Room) s m #[(.int p1)] below meth c s₁ [] 0 0 := Stand.of_body Bd
  have e0 : s₁.heap = h0 := by rw [← hh, Bd.state]; rfl
  have N0 := Fr.nil n0
  have pre0 : Goes p e below s₁ (entryFrame m #[(.int p1)] 1) s₁ (mkF m 0 #[.val (.int p1)] []) := fun t k => castTop (ef_2 m p1) k
  have pre1 : Goes p e below s₁ (entryFrame m #[(.int p1)] 1) s₁ (mkF m 4 #[.val (.int p1)] [(.int (p1 % (64 : Int32)))]) := fun t k => pre0 t (by
      refine XS.iloadN X0.here hx rfl (hb hby d2_0) rfl ?_
      show Steps p.tables e below (s₁.setTop (mkF m 1 #[.val (.int p1)] [(.int p1)])) _
      refine XS.bipush X0.here hx rfl (hb hby d2_1) ?_
      show Steps p.tables e below (s₁.setTop (mkF m 3 #[.val (.int p1)] [(.int (64 : Int32)), (.int p1)])) _
      refine iremM X0 hx rfl (hb hby d2_3) rfl (by decide) ?_
      show Steps p.tables e below (s₁.setTop (mkF m 4 #[.val (.int p1)] [(.int (p1 % (64 : Int32)))])) _
      exact k)
  obtain ⟨fs, hr, hrun, hended, hW, hsame⟩ := X0.leave (v := some (.int (p1 % (64 : Int32)))) (fun h => by rw [Bd.returns] at h; cases h)
  refine ⟨_, _, pre1 _ (retI X0 hx Bd.returns (hb hby d2_4) hr), hrun, hended, _, _, rfl, ?_, ⟨_, rfl⟩, hW, hsame.mono (by decide) (by decide)⟩
  show Q1 Z p1 h0 n0 _ s₁.heap _
  rw [e0]
  exact ⟨rfl, N0, rfl⟩
theorem pn_1 : plainName "com/example/indagine/indagine/dataset/Attributes" = true := by first | (simp [plainName, overriddenIn]; done) | decide +kernel
theorem ef_1 (m : MethodId) (p1 : Int32) : entryFrame m #[(.int p1)] 1 = mkF m 0 #[.val (.int p1)] [] := by first | (simp [entryFrame, mkF, argsToLocals, Value.category]; done) | rfl
set_option maxRecDepth 65536 in
set_option maxHeartbeats 40000000 in
theorem rm2 (l : Launch) (Z : State) (a0 : Array Value) (hw : ∀ d ∈ tables_1, d.before a0 Z = true) (ws : List Jvm.Cond) (p1 : Int32)  (h0 : Heap) (n0 : Nat) (Z0 : n0 ≤ h0.size)  :
    MetFree l (⟨"com/example/indagine/indagine/dataset/Attributes", "hasOccasional", "(I)Z"⟩ : MethodName) (head1 (Jvm.Cond.code (⟨"com/example/indagine/indagine/dataset/Attributes", "hasOccasional", "(I)Z"⟩ : MethodName) prog_4_method_6_code 1 (some .boolean) :: ws) ({ frames := 1, cells := 0, slots := 0, locals := 12 } : Room)) (fun a U => a = #[(.int p1)] ∧ Z.Warmed39 U.vm ∧ U.heap = h0) (fun _ _ _ _ _ => True) (fun _ U o U' => ∃ v L, o = .returned v ∧ Q2 Z p1 h0 n0 v U'.heap L ∧ FrameEnd U o U' L ({ frames := 1, cells := 0, slots := 0, locals := 12 } : Room).cells ({ frames := 1, cells := 0, slots := 0, locals := 12 } : Room).slots) := by
  refine MetFree.of_bodySF (plainFor_of_name pn_1) hisR ?_
  intro p e s m args below meth c s₁ Bd hml0 hP hK
  obtain ⟨rfl, hZ, hh⟩ := hP
  have hx := Bd.exec
  have hby := Bd.bytes
  have hml : c.maxLocals = 1 := hml0
  have hown : s.vm.findClass "com/example/indagine/indagine/dataset/Attributes" = some m.cls := findClass_of_methodNamed Bd.named
  have hnm := (name_of_methodNamed Bd.named Bd.method).1
  have X0 : Stand p l e ({ frames := 1, cells := 0, slots := 0, locals := 12 } : Room) s m #[(.int p1)] below meth c s₁ [] 0 0 := Stand.of_body Bd
  have e0 : s₁.heap = h0 := by rw [← hh, Bd.state]; rfl
  have N0 := Fr.nil n0
  have pre0 : Goes p e below s₁ (entryFrame m #[(.int p1)] 1) s₁ (mkF m 0 #[.val (.int p1)] []) := fun t k => castTop (ef_1 m p1) k
  have pre2 : Goes p e below s₁ (entryFrame m #[(.int p1)] 1) s₁ (mkF m 1 #[.val (.int p1)] [(.int p1)]) := fun t k => pre0 t (by
      refine XS.iloadN X0.here hx rfl (hb hby d1_0) rfl ?_
      show Steps p.tables e below (s₁.setTop (mkF m 1 #[.val (.int p1)] [(.int p1)])) _
      exact k)
  obtain ⟨_, _, ⟨T3, L3, k3, n3⟩, -, X3, ⟨Lc3, hQ3, l3, y3, z3⟩, st3⟩ := Jvm.LawKit.callS X0 hx (y := (⟨"com/example/indagine/indagine/dataset/Attributes", "sixtyFour", "(I)I"⟩ : MethodName)) hown (mvT hZ (hw _ (List.mem_of_getElem? (i := 4) rfl))) (mvT hZ (hw _ (List.mem_of_getElem? (i := 5) rfl))) (mvT hZ (hw _ (List.mem_of_getElem? (i := 2) rfl))) (mvT hZ (hw _ (List.mem_of_getElem? (i := 6) rfl))) (by decide) (backOf (W := 0) (rm1 l Z a0 hw [] p1 h0 n0 Z0) hZ (hw _ (List.mem_of_getElem? (i := 6) rfl)) (hw _ (List.mem_of_getElem? (i := 2) rfl)) (by decide) (by decide)) (g := (mkF m 1 #[.val (.int p1)] [(.int p1)])) rfl (by rw [hml]; rfl) (argsL := [(.int p1)]) (rest := []) (lenOf pd_0 rfl) rfl (by show 2 * 0 + _ ≤ _; exact Nat.le_of_eq rfl) (hb hby d1_1) (fun _ _ => ⟨rfl, e0, (by decide : 0 + 0 ≤ _), (by decide : 0 + 0 ≤ _)⟩)
  dsimp only [Pt.U, Pt.locs, Pt.cells, Pt.slots] at X3 l3 y3 z3 st3 hQ3
  subst l3 y3 z3
  obtain ⟨rfl, N3q, eh3⟩ := hQ3
  have N3 := Fr.app N0 N3q
  have pre3 : Goes p e below s₁ (entryFrame m #[(.int p1)] 1) T3 (mkF m 4 #[.val (.int p1)] [(.int (p1 % (64 : Int32)))]) := fun t k => pre2 t (st3 _ k)
  by_cases hc4 : (p1 % (64 : Int32)) = (0 : Int32)
  · skip
    have pre5 : Goes p e below s₁ (entryFrame m #[(.int p1)] 1) T3 (mkF m 12 #[.val (.int p1)] [(.int (1 : Int32))]) := fun t k => pre3 t (by
        refine XS.ifNo X3.here hx rfl (hb hby d1_4) rfl ((if0 _ _).trans (teq hc4).2) ?_
        show Steps p.tables e below (T3.setTop (mkF m 7 #[.val (.int p1)] [])) _
        refine XS.iconst X3.here hx rfl (hb hby d1_7) ?_
        show Steps p.tables e below (T3.setTop (mkF m 8 #[.val (.int p1)] [(.int (1 : Int32))])) _
        refine XS.goto X3.here hx rfl (pc0 := 8) (pc' := 12) rfl (hb hby d1_8) (by decide) (by decide) ?_
        show Steps p.tables e below (T3.setTop (mkF m 12 #[.val (.int p1)] [(.int (1 : Int32))])) _
        exact k)
    obtain ⟨fs, hr, hrun, hended, hW, hsame⟩ := X3.leave (v := some (.int (1 : Int32))) (fun h => by rw [Bd.returns] at h; cases h)
    refine ⟨_, _, pre5 _ (retN X3 hx (t := .boolean) Bd.returns (by simp) (hb hby d1_12) hr), hrun, hended, _, _, rfl, ?_, ⟨_, rfl⟩, hW, hsame.mono (by decide) (by decide)⟩
    show Q2 Z p1 h0 n0 _ T3.heap _
    rw [eh3]
    exact ⟨by simp [fO, hc4], N3, rfl⟩
  · skip
    have pre6 : Goes p e below s₁ (entryFrame m #[(.int p1)] 1) T3 (mkF m 12 #[.val (.int p1)] [(.int (0 : Int32))]) := fun t k => pre3 t (by
        refine XS.ifYes X3.here hx rfl (pc0 := 4) (pc' := 11) rfl (hb hby d1_4) rfl ((if0 _ _).trans (feq hc4).2) (by decide) (by decide) ?_
        show Steps p.tables e below (T3.setTop (mkF m 11 #[.val (.int p1)] [])) _
        refine XS.iconst X3.here hx rfl (hb hby d1_11) ?_
        show Steps p.tables e below (T3.setTop (mkF m 12 #[.val (.int p1)] [(.int (0 : Int32))])) _
        exact k)
    obtain ⟨fs, hr, hrun, hended, hW, hsame⟩ := X3.leave (v := some (.int (0 : Int32))) (fun h => by rw [Bd.returns] at h; cases h)
    refine ⟨_, _, pre6 _ (retN X3 hx (t := .boolean) Bd.returns (by simp) (hb hby d1_12) hr), hrun, hended, _, _, rfl, ?_, ⟨_, rfl⟩, hW, hsame.mono (by decide) (by decide)⟩
    show Q2 Z p1 h0 n0 _ T3.heap _
    rw [eh3]
    exact ⟨by simp [fO, hc4], N3, rfl⟩
theorem own_rem (x : Int32) : x % 64 = 0 ↔ x.toInt % 64 = 0 := by
  have h := c_irem x 64 64 rfl
  rw [← Int32.toInt_inj, show (0 : Int32).toInt = 0 from rfl]
  omega
theorem own_low (x : Int32) : x &&& 63 = 0 ↔ x.toInt % 64 = 0 := by
  have h := c_mask x 63 6 (by decide) (by decide)
  rw [← Int32.toInt_inj, show (0 : Int32).toInt = 0 from rfl]
  omega
theorem own_base (x : Int32) : (x &&& (-64)).toInt % 64 = 0 := by
  rw [← own_low, Int32.and_assoc, show ((-64 : Int32) &&& 63) = 0 from by decide, Int32.and_zero]
theorem own_sum (x y : Int32) : ((x &&& (-64)) + (y &&& 63)).toInt % 64 = 0 ↔ y &&& 63 = 0 := by
  have h1 := own_base x
  have h2 := c_iadd (x &&& (-64)) (y &&& 63)
  have h3 := c_mask y 63 6 (by decide) (by decide)
  rw [← Int32.toInt_inj, show (0 : Int32).toInt = 0 from rfl]
  omega
def Q0 (Z : State) (p1 p2 : Int32) (h0 : Heap) (n0 : Nat) (v : Option Value) (h : Heap) (L : List Loc) : Prop := v = some (.int (1 : Int32)) ∧ Fr n0 L
theorem pn_0 : plainName "com/example/indagine/indagine/dataset/AttributesHasOccasionalPinLaw" = true := by first | (simp [plainName, overriddenIn]; done) | decide +kernel
theorem ef_0 (m : MethodId) (p1 : Int32) (p2 : Int32) : entryFrame m #[(.int p1), (.int p2)] maxLocals = mkF m 0 #[.val (.int p1), .val (.int p2), .unset, .unset, .unset, .unset, .unset] [] := by first | (simp [entryFrame, mkF, argsToLocals, Value.category, maxLocals]; done) | rfl
set_option maxRecDepth 65536 in
set_option maxHeartbeats 40000000 in
theorem rm0 (l : Launch) (Z : State) (a0 : Array Value) (hw : ∀ d ∈ tables_1, d.before a0 Z = true) (ws : List Jvm.Cond) (p1 : Int32) (p2 : Int32)  (h0 : Heap) (n0 : Nat) (Z0 : n0 ≤ h0.size)  :
    MetFree l x (head1 (Jvm.Cond.code x code maxLocals ret :: ws) room_1) (fun a U => a = #[(.int p1), (.int p2)] ∧ Z.Warmed39 U.vm ∧ U.heap = h0) (fun _ _ _ _ _ => True) (fun _ U o U' => ∃ v L, o = .returned v ∧ Q0 Z p1 p2 h0 n0 v U'.heap L ∧ FrameEnd U o U' L room_1.cells room_1.slots) := by
  refine MetFree.of_bodySF (plainFor_of_name pn_0) hisR ?_
  intro p e s m args below meth c s₁ Bd hml0 hP hK
  obtain ⟨rfl, hZ, hh⟩ := hP
  have hx := Bd.exec
  have hby := Bd.bytes
  have hml : c.maxLocals = 7 := hml0
  have hown : s.vm.findClass "com/example/indagine/indagine/dataset/AttributesHasOccasionalPinLaw" = some m.cls := findClass_of_methodNamed Bd.named
  have hnm := (name_of_methodNamed Bd.named Bd.method).1
  have X0 : Stand p l e room_1 s m #[(.int p1), (.int p2)] below meth c s₁ [] 0 0 := Stand.of_body Bd
  have e0 : s₁.heap = h0 := by rw [← hh, Bd.state]; rfl
  have N0 := Fr.nil n0
  have pre0 : Goes p e below s₁ (entryFrame m #[(.int p1), (.int p2)] maxLocals) s₁ (mkF m 0 #[.val (.int p1), .val (.int p2), .unset, .unset, .unset, .unset, .unset] []) := fun t k => castTop (ef_0 m p1 p2) k
  have pre7 : Goes p e below s₁ (entryFrame m #[(.int p1), (.int p2)] maxLocals) s₁ (mkF m 1 #[.val (.int p1), .val (.int p2), .unset, .unset, .unset, .unset, .unset] [(.int p1)]) := fun t k => pre0 t (by
      refine XS.iloadN X0.here hx rfl (hb hby at_0) rfl ?_
      show Steps p.tables e below (s₁.setTop (mkF m 1 #[.val (.int p1), .val (.int p2), .unset, .unset, .unset, .unset, .unset] [(.int p1)])) _
      exact k)
  obtain ⟨_, _, ⟨T8, L8, k8, n8⟩, -, X8, ⟨Lc8, hQ8, l8, y8, z8⟩, st8⟩ := Jvm.LawKit.callS X0 hx (y := (⟨"com/example/indagine/indagine/dataset/Attributes", "hasOccasional", "(I)Z"⟩ : MethodName)) hown (mvT hZ (hw _ (List.mem_of_getElem? (i := 0) rfl))) (mvT hZ (hw _ (List.mem_of_getElem? (i := 1) rfl))) (mvT hZ (hw _ (List.mem_of_getElem? (i := 2) rfl))) (mvT hZ (hw _ (List.mem_of_getElem? (i := 3) rfl))) (by decide) (backOf (W := 0) (rm2 l Z a0 hw [] p1 h0 n0 Z0) hZ (hw _ (List.mem_of_getElem? (i := 3) rfl)) (hw _ (List.mem_of_getElem? (i := 2) rfl)) (by decide) (by decide)) (g := (mkF m 1 #[.val (.int p1), .val (.int p2), .unset, .unset, .unset, .unset, .unset] [(.int p1)])) rfl (by rw [hml]; rfl) (argsL := [(.int p1)]) (rest := []) (lenOf pd_1 rfl) rfl (by show 2 * 0 + _ ≤ _; exact Nat.le_of_eq rfl) (hb hby at_1) (fun _ _ => ⟨rfl, e0, (by decide : 0 + 0 ≤ _), (by decide : 0 + 0 ≤ _)⟩)
  dsimp only [Pt.U, Pt.locs, Pt.cells, Pt.slots] at X8 l8 y8 z8 st8 hQ8
  subst l8 y8 z8
  obtain ⟨rfl, N8q, eh8⟩ := hQ8
  have N8 := Fr.app N0 N8q
  have pre8 : Goes p e below s₁ (entryFrame m #[(.int p1), (.int p2)] maxLocals) T8 (mkF m 4 #[.val (.int p1), .val (.int p2), .unset, .unset, .unset, .unset, .unset] [(.int (fO p1))]) := fun t k => pre7 t (st8 _ k)
  have pre9 : Goes p e below s₁ (entryFrame m #[(.int p1), (.int p2)] maxLocals) T8 (mkF m 8 #[.val (.int p1), .val (.int p2), .unset, .unset, .unset, .unset, .unset] [(.int (p1 &&& (63 : Int32))), (.int (fO p1))]) := fun t k => pre8 t (by
      refine XS.iloadN X8.here hx rfl (hb hby at_4) rfl ?_
      show Steps p.tables e below (T8.setTop (mkF m 5 #[.val (.int p1), .val (.int p2), .unset, .unset, .unset, .unset, .unset] [(.int p1), (.int (fO p1))])) _
      refine XS.bipush X8.here hx rfl (hb hby at_5) ?_
      show Steps p.tables e below (T8.setTop (mkF m 7 #[.val (.int p1), .val (.int p2), .unset, .unset, .unset, .unset, .unset] [(.int (63 : Int32)), (.int p1), (.int (fO p1))])) _
      refine XS.iand X8.here hx rfl (hb hby at_7) rfl ?_
      show Steps p.tables e below (T8.setTop (mkF m 8 #[.val (.int p1), .val (.int p2), .unset, .unset, .unset, .unset, .unset] [(.int (p1 &&& (63 : Int32))), (.int (fO p1))])) _
      exact k)
  by_cases hm : (p1 &&& (63 : Int32)) = (0 : Int32)
  · skip
    have pre10 : Goes p e below s₁ (entryFrame m #[(.int p1), (.int p2)] maxLocals) T8 (mkF m 31 #[.val (.int p1), .val (.int p2), .val (.int (1 : Int32)), .val (.int (p2 &&& (-64 : Int32))), .unset, .unset, .unset] [(.int (p2 &&& (-64 : Int32)))]) := fun t k => pre9 t (by
        refine XS.ifNo X8.here hx rfl (hb hby at_8) rfl ((if0 _ _).trans (teq hm).2) ?_
        show Steps p.tables e below (T8.setTop (mkF m 11 #[.val (.int p1), .val (.int p2), .unset, .unset, .unset, .unset, .unset] [(.int (fO p1))])) _
        refine XS.iconst X8.here hx rfl (hb hby at_11) ?_
        show Steps p.tables e below (T8.setTop (mkF m 12 #[.val (.int p1), .val (.int p2), .unset, .unset, .unset, .unset, .unset] [(.int (1 : Int32)), (.int (fO p1))])) _
        refine XS.goto X8.here hx rfl (pc0 := 12) (pc' := 16) rfl (hb hby at_12) (by decide) (by decide) ?_
        show Steps p.tables e below (T8.setTop (mkF m 16 #[.val (.int p1), .val (.int p2), .unset, .unset, .unset, .unset, .unset] [(.int (1 : Int32)), (.int (fO p1))])) _
        refine XS.icmpNo X8.here hx rfl (hb hby at_16) rfl (teq (show (fO p1) = (1 : Int32) from (if_pos ((own_rem p1).mpr ((own_low p1).mp hm))))).2 ?_
        show Steps p.tables e below (T8.setTop (mkF m 19 #[.val (.int p1), .val (.int p2), .unset, .unset, .unset, .unset, .unset] [])) _
        refine XS.iconst X8.here hx rfl (hb hby at_19) ?_
        show Steps p.tables e below (T8.setTop (mkF m 20 #[.val (.int p1), .val (.int p2), .unset, .unset, .unset, .unset, .unset] [(.int (1 : Int32))])) _
        refine XS.goto X8.here hx rfl (pc0 := 20) (pc' := 24) rfl (hb hby at_20) (by decide) (by decide) ?_
        show Steps p.tables e below (T8.setTop (mkF m 24 #[.val (.int p1), .val (.int p2), .unset, .unset, .unset, .unset, .unset] [(.int (1 : Int32))])) _
        refine XS.istoreN X8.here hx rfl (hb hby at_24) rfl (l' := #[.val (.int p1), .val (.int p2), .val (.int (1 : Int32)), .unset, .unset, .unset, .unset]) rfl ?_
        show Steps p.tables e below (T8.setTop (mkF m 25 #[.val (.int p1), .val (.int p2), .val (.int (1 : Int32)), .unset, .unset, .unset, .unset] [])) _
        refine XS.iloadN X8.here hx rfl (hb hby at_25) rfl ?_
        show Steps p.tables e below (T8.setTop (mkF m 26 #[.val (.int p1), .val (.int p2), .val (.int (1 : Int32)), .unset, .unset, .unset, .unset] [(.int p2)])) _
        refine XS.bipush X8.here hx rfl (hb hby at_26) ?_
        show Steps p.tables e below (T8.setTop (mkF m 28 #[.val (.int p1), .val (.int p2), .val (.int (1 : Int32)), .unset, .unset, .unset, .unset] [(.int (-64 : Int32)), (.int p2)])) _
        refine XS.iand X8.here hx rfl (hb hby at_28) rfl ?_
        show Steps p.tables e below (T8.setTop (mkF m 29 #[.val (.int p1), .val (.int p2), .val (.int (1 : Int32)), .unset, .unset, .unset, .unset] [(.int (p2 &&& (-64 : Int32)))])) _
        refine XS.istoreN X8.here hx rfl (hb hby at_29) rfl (l' := #[.val (.int p1), .val (.int p2), .val (.int (1 : Int32)), .val (.int (p2 &&& (-64 : Int32))), .unset, .unset, .unset]) rfl ?_
        show Steps p.tables e below (T8.setTop (mkF m 30 #[.val (.int p1), .val (.int p2), .val (.int (1 : Int32)), .val (.int (p2 &&& (-64 : Int32))), .unset, .unset, .unset] [])) _
        refine XS.iloadN X8.here hx rfl (hb hby at_30) rfl ?_
        show Steps p.tables e below (T8.setTop (mkF m 31 #[.val (.int p1), .val (.int p2), .val (.int (1 : Int32)), .val (.int (p2 &&& (-64 : Int32))), .unset, .unset, .unset] [(.int (p2 &&& (-64 : Int32)))])) _
        exact k)
    obtain ⟨_, _, ⟨T11, L11, k11, n11⟩, -, X11, ⟨Lc11, hQ11, l11, y11, z11⟩, st11⟩ := Jvm.LawKit.callS X8 hx (y := (⟨"com/example/indagine/indagine/dataset/Attributes", "hasOccasional", "(I)Z"⟩ : MethodName)) hown (mvT hZ (hw _ (List.mem_of_getElem? (i := 0) rfl))) (mvT hZ (hw _ (List.mem_of_getElem? (i := 1) rfl))) (mvT hZ (hw _ (List.mem_of_getElem? (i := 2) rfl))) (mvT hZ (hw _ (List.mem_of_getElem? (i := 3) rfl))) (by decide) (backOf (W := 0) (rm2 l Z a0 hw [] (p2 &&& (-64 : Int32)) h0 n0 Z0) hZ (hw _ (List.mem_of_getElem? (i := 3) rfl)) (hw _ (List.mem_of_getElem? (i := 2) rfl)) (by decide) (by decide)) (g := (mkF m 31 #[.val (.int p1), .val (.int p2), .val (.int (1 : Int32)), .val (.int (p2 &&& (-64 : Int32))), .unset, .unset, .unset] [(.int (p2 &&& (-64 : Int32)))])) rfl (by rw [hml]; rfl) (argsL := [(.int (p2 &&& (-64 : Int32)))]) (rest := []) (lenOf pd_1 rfl) rfl (by show 2 * 0 + _ ≤ _; exact Nat.le_of_eq rfl) (hb hby at_31) (fun _ _ => ⟨rfl, eh8, (by decide : 0 + 0 ≤ _), (by decide : 0 + 0 ≤ _)⟩)
    dsimp only [Pt.U, Pt.locs, Pt.cells, Pt.slots] at X11 l11 y11 z11 st11 hQ11
    subst l11 y11 z11
    obtain ⟨rfl, N11q, eh11⟩ := hQ11
    have N11 := Fr.app N8 N11q
    have pre11 : Goes p e below s₁ (entryFrame m #[(.int p1), (.int p2)] maxLocals) T11 (mkF m 34 #[.val (.int p1), .val (.int p2), .val (.int (1 : Int32)), .val (.int (p2 &&& (-64 : Int32))), .unset, .unset, .unset] [(.int (fO (p2 &&& (-64 : Int32))))]) := fun t k => pre10 t (st11 _ k)
    have pre12 : Goes p e below s₁ (entryFrame m #[(.int p1), (.int p2)] maxLocals) T11 (mkF m 46 #[.val (.int p1), .val (.int p2), .val (.int (1 : Int32)), .val (.int (p2 &&& (-64 : Int32))), .val (.int (fO (p2 &&& (-64 : Int32)))), .val (.int (p1 &&& (63 : Int32))), .unset] [(.int ((p2 &&& (-64 : Int32)) + (p1 &&& (63 : Int32))))]) := fun t k => pre11 t (by
        refine XS.istore X11.here hx rfl (hb hby at_34) rfl (l' := #[.val (.int p1), .val (.int p2), .val (.int (1 : Int32)), .val (.int (p2 &&& (-64 : Int32))), .val (.int (fO (p2 &&& (-64 : Int32)))), .unset, .unset]) rfl ?_
        show Steps p.tables e below (T11.setTop (mkF m 36 #[.val (.int p1), .val (.int p2), .val (.int (1 : Int32)), .val (.int (p2 &&& (-64 : Int32))), .val (.int (fO (p2 &&& (-64 : Int32)))), .unset, .unset] [])) _
        refine XS.iloadN X11.here hx rfl (hb hby at_36) rfl ?_
        show Steps p.tables e below (T11.setTop (mkF m 37 #[.val (.int p1), .val (.int p2), .val (.int (1 : Int32)), .val (.int (p2 &&& (-64 : Int32))), .val (.int (fO (p2 &&& (-64 : Int32)))), .unset, .unset] [(.int p1)])) _
        refine XS.bipush X11.here hx rfl (hb hby at_37) ?_
        show Steps p.tables e below (T11.setTop (mkF m 39 #[.val (.int p1), .val (.int p2), .val (.int (1 : Int32)), .val (.int (p2 &&& (-64 : Int32))), .val (.int (fO (p2 &&& (-64 : Int32)))), .unset, .unset] [(.int (63 : Int32)), (.int p1)])) _
        refine XS.iand X11.here hx rfl (hb hby at_39) rfl ?_
        show Steps p.tables e below (T11.setTop (mkF m 40 #[.val (.int p1), .val (.int p2), .val (.int (1 : Int32)), .val (.int (p2 &&& (-64 : Int32))), .val (.int (fO (p2 &&& (-64 : Int32)))), .unset, .unset] [(.int (p1 &&& (63 : Int32)))])) _
        refine XS.istore X11.here hx rfl (hb hby at_40) rfl (l' := #[.val (.int p1), .val (.int p2), .val (.int (1 : Int32)), .val (.int (p2 &&& (-64 : Int32))), .val (.int (fO (p2 &&& (-64 : Int32)))), .val (.int (p1 &&& (63 : Int32))), .unset]) rfl ?_
        show Steps p.tables e below (T11.setTop (mkF m 42 #[.val (.int p1), .val (.int p2), .val (.int (1 : Int32)), .val (.int (p2 &&& (-64 : Int32))), .val (.int (fO (p2 &&& (-64 : Int32)))), .val (.int (p1 &&& (63 : Int32))), .unset] [])) _
        refine XS.iloadN X11.here hx rfl (hb hby at_42) rfl ?_
        show Steps p.tables e below (T11.setTop (mkF m 43 #[.val (.int p1), .val (.int p2), .val (.int (1 : Int32)), .val (.int (p2 &&& (-64 : Int32))), .val (.int (fO (p2 &&& (-64 : Int32)))), .val (.int (p1 &&& (63 : Int32))), .unset] [(.int (p2 &&& (-64 : Int32)))])) _
        refine XS.iload X11.here hx rfl (hb hby at_43) rfl ?_
        show Steps p.tables e below (T11.setTop (mkF m 45 #[.val (.int p1), .val (.int p2), .val (.int (1 : Int32)), .val (.int (p2 &&& (-64 : Int32))), .val (.int (fO (p2 &&& (-64 : Int32)))), .val (.int (p1 &&& (63 : Int32))), .unset] [(.int (p1 &&& (63 : Int32))), (.int (p2 &&& (-64 : Int32)))])) _
        refine XS.iadd X11.here hx rfl (hb hby at_45) rfl ?_
        show Steps p.tables e below (T11.setTop (mkF m 46 #[.val (.int p1), .val (.int p2), .val (.int (1 : Int32)), .val (.int (p2 &&& (-64 : Int32))), .val (.int (fO (p2 &&& (-64 : Int32)))), .val (.int (p1 &&& (63 : Int32))), .unset] [(.int ((p2 &&& (-64 : Int32)) + (p1 &&& (63 : Int32))))])) _
        exact k)
    obtain ⟨_, _, ⟨T13, L13, k13, n13⟩, -, X13, ⟨Lc13, hQ13, l13, y13, z13⟩, st13⟩ := Jvm.LawKit.callS X11 hx (y := (⟨"com/example/indagine/indagine/dataset/Attributes", "hasOccasional", "(I)Z"⟩ : MethodName)) hown (mvT hZ (hw _ (List.mem_of_getElem? (i := 0) rfl))) (mvT hZ (hw _ (List.mem_of_getElem? (i := 1) rfl))) (mvT hZ (hw _ (List.mem_of_getElem? (i := 2) rfl))) (mvT hZ (hw _ (List.mem_of_getElem? (i := 3) rfl))) (by decide) (backOf (W := 0) (rm2 l Z a0 hw [] ((p2 &&& (-64 : Int32)) + (p1 &&& (63 : Int32))) h0 n0 Z0) hZ (hw _ (List.mem_of_getElem? (i := 3) rfl)) (hw _ (List.mem_of_getElem? (i := 2) rfl)) (by decide) (by decide)) (g := (mkF m 46 #[.val (.int p1), .val (.int p2), .val (.int (1 : Int32)), .val (.int (p2 &&& (-64 : Int32))), .val (.int (fO (p2 &&& (-64 : Int32)))), .val (.int (p1 &&& (63 : Int32))), .unset] [(.int ((p2 &&& (-64 : Int32)) + (p1 &&& (63 : Int32))))])) rfl (by rw [hml]; rfl) (argsL := [(.int ((p2 &&& (-64 : Int32)) + (p1 &&& (63 : Int32))))]) (rest := []) (lenOf pd_1 rfl) rfl (by show 2 * 0 + _ ≤ _; exact Nat.le_of_eq rfl) (hb hby at_46) (fun _ _ => ⟨rfl, eh11, (by decide : 0 + 0 ≤ _), (by decide : 0 + 0 ≤ _)⟩)
    dsimp only [Pt.U, Pt.locs, Pt.cells, Pt.slots] at X13 l13 y13 z13 st13 hQ13
    subst l13 y13 z13
    obtain ⟨rfl, N13q, eh13⟩ := hQ13
    have N13 := Fr.app N11 N13q
    have pre13 : Goes p e below s₁ (entryFrame m #[(.int p1), (.int p2)] maxLocals) T13 (mkF m 49 #[.val (.int p1), .val (.int p2), .val (.int (1 : Int32)), .val (.int (p2 &&& (-64 : Int32))), .val (.int (fO (p2 &&& (-64 : Int32)))), .val (.int (p1 &&& (63 : Int32))), .unset] [(.int (fO ((p2 &&& (-64 : Int32)) + (p1 &&& (63 : Int32)))))]) := fun t k => pre12 t (st13 _ k)
    have pre14 : Goes p e below s₁ (entryFrame m #[(.int p1), (.int p2)] maxLocals) T13 (mkF m 88 #[.val (.int p1), .val (.int p2), .val (.int (1 : Int32)), .val (.int (p2 &&& (-64 : Int32))), .val (.int (fO (p2 &&& (-64 : Int32)))), .val (.int (p1 &&& (63 : Int32))), .val (.int (1 : Int32))] [(.int (1 : Int32))]) := fun t k => pre13 t (by
        refine XS.iload X13.here hx rfl (hb hby at_49) rfl ?_
        show Steps p.tables e below (T13.setTop (mkF m 51 #[.val (.int p1), .val (.int p2), .val (.int (1 : Int32)), .val (.int (p2 &&& (-64 : Int32))), .val (.int (fO (p2 &&& (-64 : Int32)))), .val (.int (p1 &&& (63 : Int32))), .unset] [(.int (p1 &&& (63 : Int32))), (.int (fO ((p2 &&& (-64 : Int32)) + (p1 &&& (63 : Int32)))))])) _
        refine XS.ifNo X13.here hx rfl (hb hby at_51) rfl ((if0 _ _).trans (teq hm).2) ?_
        show Steps p.tables e below (T13.setTop (mkF m 54 #[.val (.int p1), .val (.int p2), .val (.int (1 : Int32)), .val (.int (p2 &&& (-64 : Int32))), .val (.int (fO (p2 &&& (-64 : Int32)))), .val (.int (p1 &&& (63 : Int32))), .unset] [(.int (fO ((p2 &&& (-64 : Int32)) + (p1 &&& (63 : Int32)))))])) _
        refine XS.iconst X13.here hx rfl (hb hby at_54) ?_
        show Steps p.tables e below (T13.setTop (mkF m 55 #[.val (.int p1), .val (.int p2), .val (.int (1 : Int32)), .val (.int (p2 &&& (-64 : Int32))), .val (.int (fO (p2 &&& (-64 : Int32)))), .val (.int (p1 &&& (63 : Int32))), .unset] [(.int (1 : Int32)), (.int (fO ((p2 &&& (-64 : Int32)) + (p1 &&& (63 : Int32)))))])) _
        refine XS.goto X13.here hx rfl (pc0 := 55) (pc' := 59) rfl (hb hby at_55) (by decide) (by decide) ?_
        show Steps p.tables e below (T13.setTop (mkF m 59 #[.val (.int p1), .val (.int p2), .val (.int (1 : Int32)), .val (.int (p2 &&& (-64 : Int32))), .val (.int (fO (p2 &&& (-64 : Int32)))), .val (.int (p1 &&& (63 : Int32))), .unset] [(.int (1 : Int32)), (.int (fO ((p2 &&& (-64 : Int32)) + (p1 &&& (63 : Int32)))))])) _
        refine XS.icmpNo X13.here hx rfl (hb hby at_59) rfl (teq (show (fO ((p2 &&& (-64 : Int32)) + (p1 &&& (63 : Int32)))) = (1 : Int32) from (if_pos ((own_rem _).mpr ((own_sum p2 p1).mpr hm))))).2 ?_
        show Steps p.tables e below (T13.setTop (mkF m 62 #[.val (.int p1), .val (.int p2), .val (.int (1 : Int32)), .val (.int (p2 &&& (-64 : Int32))), .val (.int (fO (p2 &&& (-64 : Int32)))), .val (.int (p1 &&& (63 : Int32))), .unset] [])) _
        refine XS.iconst X13.here hx rfl (hb hby at_62) ?_
        show Steps p.tables e below (T13.setTop (mkF m 63 #[.val (.int p1), .val (.int p2), .val (.int (1 : Int32)), .val (.int (p2 &&& (-64 : Int32))), .val (.int (fO (p2 &&& (-64 : Int32)))), .val (.int (p1 &&& (63 : Int32))), .unset] [(.int (1 : Int32))])) _
        refine XS.goto X13.here hx rfl (pc0 := 63) (pc' := 67) rfl (hb hby at_63) (by decide) (by decide) ?_
        show Steps p.tables e below (T13.setTop (mkF m 67 #[.val (.int p1), .val (.int p2), .val (.int (1 : Int32)), .val (.int (p2 &&& (-64 : Int32))), .val (.int (fO (p2 &&& (-64 : Int32)))), .val (.int (p1 &&& (63 : Int32))), .unset] [(.int (1 : Int32))])) _
        refine XS.istore X13.here hx rfl (hb hby at_67) rfl (l' := #[.val (.int p1), .val (.int p2), .val (.int (1 : Int32)), .val (.int (p2 &&& (-64 : Int32))), .val (.int (fO (p2 &&& (-64 : Int32)))), .val (.int (p1 &&& (63 : Int32))), .val (.int (1 : Int32))]) rfl ?_
        show Steps p.tables e below (T13.setTop (mkF m 69 #[.val (.int p1), .val (.int p2), .val (.int (1 : Int32)), .val (.int (p2 &&& (-64 : Int32))), .val (.int (fO (p2 &&& (-64 : Int32)))), .val (.int (p1 &&& (63 : Int32))), .val (.int (1 : Int32))] [])) _
        refine XS.iloadN X13.here hx rfl (hb hby at_69) rfl ?_
        show Steps p.tables e below (T13.setTop (mkF m 70 #[.val (.int p1), .val (.int p2), .val (.int (1 : Int32)), .val (.int (p2 &&& (-64 : Int32))), .val (.int (fO (p2 &&& (-64 : Int32)))), .val (.int (p1 &&& (63 : Int32))), .val (.int (1 : Int32))] [(.int (1 : Int32))])) _
        refine XS.ifNo X13.here hx rfl (hb hby at_70) rfl ((if0 _ _).trans (feq (show ¬ ((1 : Int32) = (0 : Int32)) from (by decide : ¬ ((1 : Int32) = (0 : Int32))))).1) ?_
        show Steps p.tables e below (T13.setTop (mkF m 73 #[.val (.int p1), .val (.int p2), .val (.int (1 : Int32)), .val (.int (p2 &&& (-64 : Int32))), .val (.int (fO (p2 &&& (-64 : Int32)))), .val (.int (p1 &&& (63 : Int32))), .val (.int (1 : Int32))] [])) _
        refine XS.iload X13.here hx rfl (hb hby at_73) rfl ?_
        show Steps p.tables e below (T13.setTop (mkF m 75 #[.val (.int p1), .val (.int p2), .val (.int (1 : Int32)), .val (.int (p2 &&& (-64 : Int32))), .val (.int (fO (p2 &&& (-64 : Int32)))), .val (.int (p1 &&& (63 : Int32))), .val (.int (1 : Int32))] [(.int (fO (p2 &&& (-64 : Int32))))])) _
        refine XS.ifNo X13.here hx rfl (hb hby at_75) rfl ((if0 _ _).trans (feq (show ¬ ((fO (p2 &&& (-64 : Int32))) = (0 : Int32)) from (by rw [show fO (p2 &&& (-64 : Int32)) = 1 from if_pos ((own_rem _).mpr (own_base p2))]; decide))).1) ?_
        show Steps p.tables e below (T13.setTop (mkF m 78 #[.val (.int p1), .val (.int p2), .val (.int (1 : Int32)), .val (.int (p2 &&& (-64 : Int32))), .val (.int (fO (p2 &&& (-64 : Int32)))), .val (.int (p1 &&& (63 : Int32))), .val (.int (1 : Int32))] [])) _
        refine XS.iload X13.here hx rfl (hb hby at_78) rfl ?_
        show Steps p.tables e below (T13.setTop (mkF m 80 #[.val (.int p1), .val (.int p2), .val (.int (1 : Int32)), .val (.int (p2 &&& (-64 : Int32))), .val (.int (fO (p2 &&& (-64 : Int32)))), .val (.int (p1 &&& (63 : Int32))), .val (.int (1 : Int32))] [(.int (1 : Int32))])) _
        refine XS.ifNo X13.here hx rfl (hb hby at_80) rfl ((if0 _ _).trans (feq (show ¬ ((1 : Int32) = (0 : Int32)) from (by decide : ¬ ((1 : Int32) = (0 : Int32))))).1) ?_
        show Steps p.tables e below (T13.setTop (mkF m 83 #[.val (.int p1), .val (.int p2), .val (.int (1 : Int32)), .val (.int (p2 &&& (-64 : Int32))), .val (.int (fO (p2 &&& (-64 : Int32)))), .val (.int (p1 &&& (63 : Int32))), .val (.int (1 : Int32))] [])) _
        refine XS.iconst X13.here hx rfl (hb hby at_83) ?_
        show Steps p.tables e below (T13.setTop (mkF m 84 #[.val (.int p1), .val (.int p2), .val (.int (1 : Int32)), .val (.int (p2 &&& (-64 : Int32))), .val (.int (fO (p2 &&& (-64 : Int32)))), .val (.int (p1 &&& (63 : Int32))), .val (.int (1 : Int32))] [(.int (1 : Int32))])) _
        refine XS.goto X13.here hx rfl (pc0 := 84) (pc' := 88) rfl (hb hby at_84) (by decide) (by decide) ?_
        show Steps p.tables e below (T13.setTop (mkF m 88 #[.val (.int p1), .val (.int p2), .val (.int (1 : Int32)), .val (.int (p2 &&& (-64 : Int32))), .val (.int (fO (p2 &&& (-64 : Int32)))), .val (.int (p1 &&& (63 : Int32))), .val (.int (1 : Int32))] [(.int (1 : Int32))])) _
        exact k)
    obtain ⟨fs, hr, hrun, hended, hW, hsame⟩ := X13.leave (v := some (.int (1 : Int32))) (fun h => by rw [Bd.returns] at h; cases h)
    refine ⟨_, _, pre14 _ (retN X13 hx (t := .boolean) Bd.returns (by simp) (hb hby at_88) hr), hrun, hended, _, _, rfl, ?_, ⟨_, rfl⟩, hW, hsame.mono (by decide) (by decide)⟩
    show Q0 Z p1 p2 h0 n0 _ T13.heap _
    exact ⟨rfl, N13⟩
  · skip
    have pre15 : Goes p e below s₁ (entryFrame m #[(.int p1), (.int p2)] maxLocals) T8 (mkF m 31 #[.val (.int p1), .val (.int p2), .val (.int (1 : Int32)), .val (.int (p2 &&& (-64 : Int32))), .unset, .unset, .unset] [(.int (p2 &&& (-64 : Int32)))]) := fun t k => pre9 t (by
        refine XS.ifYes X8.here hx rfl (pc0 := 8) (pc' := 15) rfl (hb hby at_8) rfl ((if0 _ _).trans (feq hm).2) (by decide) (by decide) ?_
        show Steps p.tables e below (T8.setTop (mkF m 15 #[.val (.int p1), .val (.int p2), .unset, .unset, .unset, .unset, .unset] [(.int (fO p1))])) _
        refine XS.iconst X8.here hx rfl (hb hby at_15) ?_
        show Steps p.tables e below (T8.setTop (mkF m 16 #[.val (.int p1), .val (.int p2), .unset, .unset, .unset, .unset, .unset] [(.int (0 : Int32)), (.int (fO p1))])) _
        refine XS.icmpNo X8.here hx rfl (hb hby at_16) rfl (teq (show (fO p1) = (0 : Int32) from (if_neg (fun q => hm ((own_low p1).mpr ((own_rem p1).mp q)))))).2 ?_
        show Steps p.tables e below (T8.setTop (mkF m 19 #[.val (.int p1), .val (.int p2), .unset, .unset, .unset, .unset, .unset] [])) _
        refine XS.iconst X8.here hx rfl (hb hby at_19) ?_
        show Steps p.tables e below (T8.setTop (mkF m 20 #[.val (.int p1), .val (.int p2), .unset, .unset, .unset, .unset, .unset] [(.int (1 : Int32))])) _
        refine XS.goto X8.here hx rfl (pc0 := 20) (pc' := 24) rfl (hb hby at_20) (by decide) (by decide) ?_
        show Steps p.tables e below (T8.setTop (mkF m 24 #[.val (.int p1), .val (.int p2), .unset, .unset, .unset, .unset, .unset] [(.int (1 : Int32))])) _
        refine XS.istoreN X8.here hx rfl (hb hby at_24) rfl (l' := #[.val (.int p1), .val (.int p2), .val (.int (1 : Int32)), .unset, .unset, .unset, .unset]) rfl ?_
        show Steps p.tables e below (T8.setTop (mkF m 25 #[.val (.int p1), .val (.int p2), .val (.int (1 : Int32)), .unset, .unset, .unset, .unset] [])) _
        refine XS.iloadN X8.here hx rfl (hb hby at_25) rfl ?_
        show Steps p.tables e below (T8.setTop (mkF m 26 #[.val (.int p1), .val (.int p2), .val (.int (1 : Int32)), .unset, .unset, .unset, .unset] [(.int p2)])) _
        refine XS.bipush X8.here hx rfl (hb hby at_26) ?_
        show Steps p.tables e below (T8.setTop (mkF m 28 #[.val (.int p1), .val (.int p2), .val (.int (1 : Int32)), .unset, .unset, .unset, .unset] [(.int (-64 : Int32)), (.int p2)])) _
        refine XS.iand X8.here hx rfl (hb hby at_28) rfl ?_
        show Steps p.tables e below (T8.setTop (mkF m 29 #[.val (.int p1), .val (.int p2), .val (.int (1 : Int32)), .unset, .unset, .unset, .unset] [(.int (p2 &&& (-64 : Int32)))])) _
        refine XS.istoreN X8.here hx rfl (hb hby at_29) rfl (l' := #[.val (.int p1), .val (.int p2), .val (.int (1 : Int32)), .val (.int (p2 &&& (-64 : Int32))), .unset, .unset, .unset]) rfl ?_
        show Steps p.tables e below (T8.setTop (mkF m 30 #[.val (.int p1), .val (.int p2), .val (.int (1 : Int32)), .val (.int (p2 &&& (-64 : Int32))), .unset, .unset, .unset] [])) _
        refine XS.iloadN X8.here hx rfl (hb hby at_30) rfl ?_
        show Steps p.tables e below (T8.setTop (mkF m 31 #[.val (.int p1), .val (.int p2), .val (.int (1 : Int32)), .val (.int (p2 &&& (-64 : Int32))), .unset, .unset, .unset] [(.int (p2 &&& (-64 : Int32)))])) _
        exact k)
    obtain ⟨_, _, ⟨T16, L16, k16, n16⟩, -, X16, ⟨Lc16, hQ16, l16, y16, z16⟩, st16⟩ := Jvm.LawKit.callS X8 hx (y := (⟨"com/example/indagine/indagine/dataset/Attributes", "hasOccasional", "(I)Z"⟩ : MethodName)) hown (mvT hZ (hw _ (List.mem_of_getElem? (i := 0) rfl))) (mvT hZ (hw _ (List.mem_of_getElem? (i := 1) rfl))) (mvT hZ (hw _ (List.mem_of_getElem? (i := 2) rfl))) (mvT hZ (hw _ (List.mem_of_getElem? (i := 3) rfl))) (by decide) (backOf (W := 0) (rm2 l Z a0 hw [] (p2 &&& (-64 : Int32)) h0 n0 Z0) hZ (hw _ (List.mem_of_getElem? (i := 3) rfl)) (hw _ (List.mem_of_getElem? (i := 2) rfl)) (by decide) (by decide)) (g := (mkF m 31 #[.val (.int p1), .val (.int p2), .val (.int (1 : Int32)), .val (.int (p2 &&& (-64 : Int32))), .unset, .unset, .unset] [(.int (p2 &&& (-64 : Int32)))])) rfl (by rw [hml]; rfl) (argsL := [(.int (p2 &&& (-64 : Int32)))]) (rest := []) (lenOf pd_1 rfl) rfl (by show 2 * 0 + _ ≤ _; exact Nat.le_of_eq rfl) (hb hby at_31) (fun _ _ => ⟨rfl, eh8, (by decide : 0 + 0 ≤ _), (by decide : 0 + 0 ≤ _)⟩)
    dsimp only [Pt.U, Pt.locs, Pt.cells, Pt.slots] at X16 l16 y16 z16 st16 hQ16
    subst l16 y16 z16
    obtain ⟨rfl, N16q, eh16⟩ := hQ16
    have N16 := Fr.app N8 N16q
    have pre16 : Goes p e below s₁ (entryFrame m #[(.int p1), (.int p2)] maxLocals) T16 (mkF m 34 #[.val (.int p1), .val (.int p2), .val (.int (1 : Int32)), .val (.int (p2 &&& (-64 : Int32))), .unset, .unset, .unset] [(.int (fO (p2 &&& (-64 : Int32))))]) := fun t k => pre15 t (st16 _ k)
    have pre17 : Goes p e below s₁ (entryFrame m #[(.int p1), (.int p2)] maxLocals) T16 (mkF m 46 #[.val (.int p1), .val (.int p2), .val (.int (1 : Int32)), .val (.int (p2 &&& (-64 : Int32))), .val (.int (fO (p2 &&& (-64 : Int32)))), .val (.int (p1 &&& (63 : Int32))), .unset] [(.int ((p2 &&& (-64 : Int32)) + (p1 &&& (63 : Int32))))]) := fun t k => pre16 t (by
        refine XS.istore X16.here hx rfl (hb hby at_34) rfl (l' := #[.val (.int p1), .val (.int p2), .val (.int (1 : Int32)), .val (.int (p2 &&& (-64 : Int32))), .val (.int (fO (p2 &&& (-64 : Int32)))), .unset, .unset]) rfl ?_
        show Steps p.tables e below (T16.setTop (mkF m 36 #[.val (.int p1), .val (.int p2), .val (.int (1 : Int32)), .val (.int (p2 &&& (-64 : Int32))), .val (.int (fO (p2 &&& (-64 : Int32)))), .unset, .unset] [])) _
        refine XS.iloadN X16.here hx rfl (hb hby at_36) rfl ?_
        show Steps p.tables e below (T16.setTop (mkF m 37 #[.val (.int p1), .val (.int p2), .val (.int (1 : Int32)), .val (.int (p2 &&& (-64 : Int32))), .val (.int (fO (p2 &&& (-64 : Int32)))), .unset, .unset] [(.int p1)])) _
        refine XS.bipush X16.here hx rfl (hb hby at_37) ?_
        show Steps p.tables e below (T16.setTop (mkF m 39 #[.val (.int p1), .val (.int p2), .val (.int (1 : Int32)), .val (.int (p2 &&& (-64 : Int32))), .val (.int (fO (p2 &&& (-64 : Int32)))), .unset, .unset] [(.int (63 : Int32)), (.int p1)])) _
        refine XS.iand X16.here hx rfl (hb hby at_39) rfl ?_
        show Steps p.tables e below (T16.setTop (mkF m 40 #[.val (.int p1), .val (.int p2), .val (.int (1 : Int32)), .val (.int (p2 &&& (-64 : Int32))), .val (.int (fO (p2 &&& (-64 : Int32)))), .unset, .unset] [(.int (p1 &&& (63 : Int32)))])) _
        refine XS.istore X16.here hx rfl (hb hby at_40) rfl (l' := #[.val (.int p1), .val (.int p2), .val (.int (1 : Int32)), .val (.int (p2 &&& (-64 : Int32))), .val (.int (fO (p2 &&& (-64 : Int32)))), .val (.int (p1 &&& (63 : Int32))), .unset]) rfl ?_
        show Steps p.tables e below (T16.setTop (mkF m 42 #[.val (.int p1), .val (.int p2), .val (.int (1 : Int32)), .val (.int (p2 &&& (-64 : Int32))), .val (.int (fO (p2 &&& (-64 : Int32)))), .val (.int (p1 &&& (63 : Int32))), .unset] [])) _
        refine XS.iloadN X16.here hx rfl (hb hby at_42) rfl ?_
        show Steps p.tables e below (T16.setTop (mkF m 43 #[.val (.int p1), .val (.int p2), .val (.int (1 : Int32)), .val (.int (p2 &&& (-64 : Int32))), .val (.int (fO (p2 &&& (-64 : Int32)))), .val (.int (p1 &&& (63 : Int32))), .unset] [(.int (p2 &&& (-64 : Int32)))])) _
        refine XS.iload X16.here hx rfl (hb hby at_43) rfl ?_
        show Steps p.tables e below (T16.setTop (mkF m 45 #[.val (.int p1), .val (.int p2), .val (.int (1 : Int32)), .val (.int (p2 &&& (-64 : Int32))), .val (.int (fO (p2 &&& (-64 : Int32)))), .val (.int (p1 &&& (63 : Int32))), .unset] [(.int (p1 &&& (63 : Int32))), (.int (p2 &&& (-64 : Int32)))])) _
        refine XS.iadd X16.here hx rfl (hb hby at_45) rfl ?_
        show Steps p.tables e below (T16.setTop (mkF m 46 #[.val (.int p1), .val (.int p2), .val (.int (1 : Int32)), .val (.int (p2 &&& (-64 : Int32))), .val (.int (fO (p2 &&& (-64 : Int32)))), .val (.int (p1 &&& (63 : Int32))), .unset] [(.int ((p2 &&& (-64 : Int32)) + (p1 &&& (63 : Int32))))])) _
        exact k)
    obtain ⟨_, _, ⟨T18, L18, k18, n18⟩, -, X18, ⟨Lc18, hQ18, l18, y18, z18⟩, st18⟩ := Jvm.LawKit.callS X16 hx (y := (⟨"com/example/indagine/indagine/dataset/Attributes", "hasOccasional", "(I)Z"⟩ : MethodName)) hown (mvT hZ (hw _ (List.mem_of_getElem? (i := 0) rfl))) (mvT hZ (hw _ (List.mem_of_getElem? (i := 1) rfl))) (mvT hZ (hw _ (List.mem_of_getElem? (i := 2) rfl))) (mvT hZ (hw _ (List.mem_of_getElem? (i := 3) rfl))) (by decide) (backOf (W := 0) (rm2 l Z a0 hw [] ((p2 &&& (-64 : Int32)) + (p1 &&& (63 : Int32))) h0 n0 Z0) hZ (hw _ (List.mem_of_getElem? (i := 3) rfl)) (hw _ (List.mem_of_getElem? (i := 2) rfl)) (by decide) (by decide)) (g := (mkF m 46 #[.val (.int p1), .val (.int p2), .val (.int (1 : Int32)), .val (.int (p2 &&& (-64 : Int32))), .val (.int (fO (p2 &&& (-64 : Int32)))), .val (.int (p1 &&& (63 : Int32))), .unset] [(.int ((p2 &&& (-64 : Int32)) + (p1 &&& (63 : Int32))))])) rfl (by rw [hml]; rfl) (argsL := [(.int ((p2 &&& (-64 : Int32)) + (p1 &&& (63 : Int32))))]) (rest := []) (lenOf pd_1 rfl) rfl (by show 2 * 0 + _ ≤ _; exact Nat.le_of_eq rfl) (hb hby at_46) (fun _ _ => ⟨rfl, eh16, (by decide : 0 + 0 ≤ _), (by decide : 0 + 0 ≤ _)⟩)
    dsimp only [Pt.U, Pt.locs, Pt.cells, Pt.slots] at X18 l18 y18 z18 st18 hQ18
    subst l18 y18 z18
    obtain ⟨rfl, N18q, eh18⟩ := hQ18
    have N18 := Fr.app N16 N18q
    have pre18 : Goes p e below s₁ (entryFrame m #[(.int p1), (.int p2)] maxLocals) T18 (mkF m 49 #[.val (.int p1), .val (.int p2), .val (.int (1 : Int32)), .val (.int (p2 &&& (-64 : Int32))), .val (.int (fO (p2 &&& (-64 : Int32)))), .val (.int (p1 &&& (63 : Int32))), .unset] [(.int (fO ((p2 &&& (-64 : Int32)) + (p1 &&& (63 : Int32)))))]) := fun t k => pre17 t (st18 _ k)
    have pre19 : Goes p e below s₁ (entryFrame m #[(.int p1), (.int p2)] maxLocals) T18 (mkF m 88 #[.val (.int p1), .val (.int p2), .val (.int (1 : Int32)), .val (.int (p2 &&& (-64 : Int32))), .val (.int (fO (p2 &&& (-64 : Int32)))), .val (.int (p1 &&& (63 : Int32))), .val (.int (1 : Int32))] [(.int (1 : Int32))]) := fun t k => pre18 t (by
        refine XS.iload X18.here hx rfl (hb hby at_49) rfl ?_
        show Steps p.tables e below (T18.setTop (mkF m 51 #[.val (.int p1), .val (.int p2), .val (.int (1 : Int32)), .val (.int (p2 &&& (-64 : Int32))), .val (.int (fO (p2 &&& (-64 : Int32)))), .val (.int (p1 &&& (63 : Int32))), .unset] [(.int (p1 &&& (63 : Int32))), (.int (fO ((p2 &&& (-64 : Int32)) + (p1 &&& (63 : Int32)))))])) _
        refine XS.ifYes X18.here hx rfl (pc0 := 51) (pc' := 58) rfl (hb hby at_51) rfl ((if0 _ _).trans (feq hm).2) (by decide) (by decide) ?_
        show Steps p.tables e below (T18.setTop (mkF m 58 #[.val (.int p1), .val (.int p2), .val (.int (1 : Int32)), .val (.int (p2 &&& (-64 : Int32))), .val (.int (fO (p2 &&& (-64 : Int32)))), .val (.int (p1 &&& (63 : Int32))), .unset] [(.int (fO ((p2 &&& (-64 : Int32)) + (p1 &&& (63 : Int32)))))])) _
        refine XS.iconst X18.here hx rfl (hb hby at_58) ?_
        show Steps p.tables e below (T18.setTop (mkF m 59 #[.val (.int p1), .val (.int p2), .val (.int (1 : Int32)), .val (.int (p2 &&& (-64 : Int32))), .val (.int (fO (p2 &&& (-64 : Int32)))), .val (.int (p1 &&& (63 : Int32))), .unset] [(.int (0 : Int32)), (.int (fO ((p2 &&& (-64 : Int32)) + (p1 &&& (63 : Int32)))))])) _
        refine XS.icmpNo X18.here hx rfl (hb hby at_59) rfl (teq (show (fO ((p2 &&& (-64 : Int32)) + (p1 &&& (63 : Int32)))) = (0 : Int32) from (if_neg (fun q => hm ((own_sum p2 p1).mp ((own_rem _).mp q)))))).2 ?_
        show Steps p.tables e below (T18.setTop (mkF m 62 #[.val (.int p1), .val (.int p2), .val (.int (1 : Int32)), .val (.int (p2 &&& (-64 : Int32))), .val (.int (fO (p2 &&& (-64 : Int32)))), .val (.int (p1 &&& (63 : Int32))), .unset] [])) _
        refine XS.iconst X18.here hx rfl (hb hby at_62) ?_
        show Steps p.tables e below (T18.setTop (mkF m 63 #[.val (.int p1), .val (.int p2), .val (.int (1 : Int32)), .val (.int (p2 &&& (-64 : Int32))), .val (.int (fO (p2 &&& (-64 : Int32)))), .val (.int (p1 &&& (63 : Int32))), .unset] [(.int (1 : Int32))])) _
        refine XS.goto X18.here hx rfl (pc0 := 63) (pc' := 67) rfl (hb hby at_63) (by decide) (by decide) ?_
        show Steps p.tables e below (T18.setTop (mkF m 67 #[.val (.int p1), .val (.int p2), .val (.int (1 : Int32)), .val (.int (p2 &&& (-64 : Int32))), .val (.int (fO (p2 &&& (-64 : Int32)))), .val (.int (p1 &&& (63 : Int32))), .unset] [(.int (1 : Int32))])) _
        refine XS.istore X18.here hx rfl (hb hby at_67) rfl (l' := #[.val (.int p1), .val (.int p2), .val (.int (1 : Int32)), .val (.int (p2 &&& (-64 : Int32))), .val (.int (fO (p2 &&& (-64 : Int32)))), .val (.int (p1 &&& (63 : Int32))), .val (.int (1 : Int32))]) rfl ?_
        show Steps p.tables e below (T18.setTop (mkF m 69 #[.val (.int p1), .val (.int p2), .val (.int (1 : Int32)), .val (.int (p2 &&& (-64 : Int32))), .val (.int (fO (p2 &&& (-64 : Int32)))), .val (.int (p1 &&& (63 : Int32))), .val (.int (1 : Int32))] [])) _
        refine XS.iloadN X18.here hx rfl (hb hby at_69) rfl ?_
        show Steps p.tables e below (T18.setTop (mkF m 70 #[.val (.int p1), .val (.int p2), .val (.int (1 : Int32)), .val (.int (p2 &&& (-64 : Int32))), .val (.int (fO (p2 &&& (-64 : Int32)))), .val (.int (p1 &&& (63 : Int32))), .val (.int (1 : Int32))] [(.int (1 : Int32))])) _
        refine XS.ifNo X18.here hx rfl (hb hby at_70) rfl ((if0 _ _).trans (feq (show ¬ ((1 : Int32) = (0 : Int32)) from (by decide : ¬ ((1 : Int32) = (0 : Int32))))).1) ?_
        show Steps p.tables e below (T18.setTop (mkF m 73 #[.val (.int p1), .val (.int p2), .val (.int (1 : Int32)), .val (.int (p2 &&& (-64 : Int32))), .val (.int (fO (p2 &&& (-64 : Int32)))), .val (.int (p1 &&& (63 : Int32))), .val (.int (1 : Int32))] [])) _
        refine XS.iload X18.here hx rfl (hb hby at_73) rfl ?_
        show Steps p.tables e below (T18.setTop (mkF m 75 #[.val (.int p1), .val (.int p2), .val (.int (1 : Int32)), .val (.int (p2 &&& (-64 : Int32))), .val (.int (fO (p2 &&& (-64 : Int32)))), .val (.int (p1 &&& (63 : Int32))), .val (.int (1 : Int32))] [(.int (fO (p2 &&& (-64 : Int32))))])) _
        refine XS.ifNo X18.here hx rfl (hb hby at_75) rfl ((if0 _ _).trans (feq (show ¬ ((fO (p2 &&& (-64 : Int32))) = (0 : Int32)) from (by rw [show fO (p2 &&& (-64 : Int32)) = 1 from if_pos ((own_rem _).mpr (own_base p2))]; decide))).1) ?_
        show Steps p.tables e below (T18.setTop (mkF m 78 #[.val (.int p1), .val (.int p2), .val (.int (1 : Int32)), .val (.int (p2 &&& (-64 : Int32))), .val (.int (fO (p2 &&& (-64 : Int32)))), .val (.int (p1 &&& (63 : Int32))), .val (.int (1 : Int32))] [])) _
        refine XS.iload X18.here hx rfl (hb hby at_78) rfl ?_
        show Steps p.tables e below (T18.setTop (mkF m 80 #[.val (.int p1), .val (.int p2), .val (.int (1 : Int32)), .val (.int (p2 &&& (-64 : Int32))), .val (.int (fO (p2 &&& (-64 : Int32)))), .val (.int (p1 &&& (63 : Int32))), .val (.int (1 : Int32))] [(.int (1 : Int32))])) _
        refine XS.ifNo X18.here hx rfl (hb hby at_80) rfl ((if0 _ _).trans (feq (show ¬ ((1 : Int32) = (0 : Int32)) from (by decide : ¬ ((1 : Int32) = (0 : Int32))))).1) ?_
        show Steps p.tables e below (T18.setTop (mkF m 83 #[.val (.int p1), .val (.int p2), .val (.int (1 : Int32)), .val (.int (p2 &&& (-64 : Int32))), .val (.int (fO (p2 &&& (-64 : Int32)))), .val (.int (p1 &&& (63 : Int32))), .val (.int (1 : Int32))] [])) _
        refine XS.iconst X18.here hx rfl (hb hby at_83) ?_
        show Steps p.tables e below (T18.setTop (mkF m 84 #[.val (.int p1), .val (.int p2), .val (.int (1 : Int32)), .val (.int (p2 &&& (-64 : Int32))), .val (.int (fO (p2 &&& (-64 : Int32)))), .val (.int (p1 &&& (63 : Int32))), .val (.int (1 : Int32))] [(.int (1 : Int32))])) _
        refine XS.goto X18.here hx rfl (pc0 := 84) (pc' := 88) rfl (hb hby at_84) (by decide) (by decide) ?_
        show Steps p.tables e below (T18.setTop (mkF m 88 #[.val (.int p1), .val (.int p2), .val (.int (1 : Int32)), .val (.int (p2 &&& (-64 : Int32))), .val (.int (fO (p2 &&& (-64 : Int32)))), .val (.int (p1 &&& (63 : Int32))), .val (.int (1 : Int32))] [(.int (1 : Int32))])) _
        exact k)
    obtain ⟨fs, hr, hrun, hended, hW, hsame⟩ := X18.leave (v := some (.int (1 : Int32))) (fun h => by rw [Bd.returns] at h; cases h)
    refine ⟨_, _, pre19 _ (retN X18 hx (t := .boolean) Bd.returns (by simp) (hb hby at_88) hr), hrun, hended, _, _, rfl, ?_, ⟨_, rfl⟩, hW, hsame.mono (by decide) (by decide)⟩
    show Q0 Z p1 p2 h0 n0 _ T18.heap _
    exact ⟨rfl, N18⟩
set_option maxRecDepth 65536 in
set_option maxHeartbeats 40000000 in
theorem comes_1 {Post : Tables → Env → Array Value → State → Outcome → State → Prop} (hpost : ∀ tb e args s v u, (limb_1_1.after args s (.returned v) u = true ∧ limb_1_2.after args s (.returned v) u = true ∧ True) → FrameEnd s (.returned v) u (Jvm.fieldLocs frame_1_writes args s ++ Jvm.arrayLocs frame_1_arrays args s ++ Jvm.staticLocs frame_1_statics s) 0 0 → Post tb e args s (.returned v) u) :
    ArmFor flags0 classFile x code maxLocals ret World_1 tables_1 room_1 Calls_1 rest_1 Pre_1 Post := by
  intro l hfl _ _ p e ha hc hk s m args below hf hA hF happ hP
  obtain ⟨hcalls, hrest, hpre⟩ := hP
  obtain ⟨-, -, -, hnamed, -, -, -, hat⟩ := (Spec.applies_iff hf).mp happ
  obtain ⟨hg, hn⟩ := and_e (Cond.before_iff.mp (show (Jvm.Cond.and given_1 narrow_1).before args s = true from hpre))
  obtain ⟨g0, gr0⟩ := and_e hg
  obtain ⟨w0, w1, rfl⟩ : ∃ w0 w1 : Value, args = #[w0, w1] := by
    have hs : args.size = 2 := by simpa [Cond.value, given_1] using g0
    obtain ⟨L⟩ := args
    match L, hs with
    | [w0, w1], _ => exact ⟨w0, w1, rfl⟩
  have hw := fun d (hd : d ∈ tables_1) => atoms_spec (ws := Jvm.Cond.code x code maxLocals ret :: tables_1) hat d (List.mem_cons_of_mem _ hd)
  obtain ⟨g1, gr1⟩ := and_e gr0
  obtain ⟨i0, ei0⟩ := is_v g1
  obtain rfl : w0 = (.int i0) := Option.some.inj ei0
  obtain ⟨i1, ei1⟩ := is_v gr1
  obtain rfl : w1 = (.int i1) := Option.some.inj ei1
  obtain ⟨n, o, h1, h2, h3, _, L, rfl, ⟨rfl, N⟩, hq⟩ := rm0 l s _ hw tables_1 i0 i1 s.heap s.heap.size (Nat.le_refl _)  p e ha hc hk s m _ below hf ((Spec.applies_iff_loose hf).mp happ).1 ⟨rfl, State.Warmed39.refl s, rfl⟩ trivial
  refine ⟨n, _, h1, h2, h3, hpost _ _ _ _ _ _ ⟨Cond.after_iff.mpr rfl, Cond.after_iff.mpr (eq_i res_at (Term.int_eval (1)) rfl), trivial⟩ ⟨hq.1, hq.2.1, (hq.2.2.sift fun y hy => Or.inr (N y hy)).mono (by decide) (by decide)⟩⟩
theorem main_1_1 : Claimed_1_1 := comes_1 fun _ _ _ _ _ _ h hF => ⟨h.1, hF⟩
theorem main_1_2 : Claimed_1_2 := comes_1 fun _ _ _ _ _ _ h hF => ⟨h.2.1, hF⟩
end Jvm.Pilot.@@N@@
namespace Jvm.Pilot.@@N@@
open Jvm Jvm.ClassFile Sem Op Lib Jvm.Free Jvm.Stand Jvm.Pilot.@@N@@.Jvm.D
/-! MADE BY PROGRAM (witnessworld.py) out of the Statement's table words and the real class files: 9 classes; the members and pool entries that the words name. The judged class is class 1, her method 1. -/
namespace start1
open Jvm.ClassFile
def u (s : String) : CpInfo := .utf8 (stringToUtf16 s)
/-- a pool by its gaps: so many unusable entries, then the entry; so many at the end -/
def gap : Nat → List CpInfo → List CpInfo
  | 0, r => r
  | n + 1, r => .unusable :: gap n r
def poolList (es : List (Nat × CpInfo)) (last : Nat) : List CpInfo := es.foldr (fun e r => gap e.1 (e.2 :: r)) (gap last [])
def pool (es : List (Nat × CpInfo)) (last : Nat) : Array CpInfo := ⟨poolList es last⟩
def fileOf (pool : Array CpInfo) (this : Nat) (attrs : Array Attribute := #[]) (ms : Array MethodInfo := #[]) (fl : Nat := 33) (sup : Nat := 0) (ifs : Array Nat := #[]) (fds : Array FieldInfo := #[]) : ClassFile where
  minorVersion := 0
  majorVersion := 65
  constantPool := pool
  accessFlags := fl
  thisClass := this
  superClass := sup
  interfaces := ifs
  fields := fds
  methods := ms
  attributes := attrs
def plain (name : String) (sup : Option ClassId) : Class where
  name := name
  kind := .ordinary
  loader := none
  accessFlags := 33
  super := sup
  interfaces := #[]
  cf := none
  fields := #[]
  methods := #[]
  instanceTypes := #[]
  staticTypes := #[]
  resolved := #[]
  callSites := []
  init := .initialized
  statics := none
  mirror := none

def pool0 : Array CpInfo := pool [(5, u "<init>"), (0, u "()V"), (1, .class_ 10), (1, u "java/lang/Object")] 113

def k0m0 : Method := { name := "<init>", desc := "()V", sig := { parameters := [], returnType := none }, accessFlags := 1, code := none }
/-- java/lang/Object -/
def k0 : Class := { plain "java/lang/Object" none with
  accessFlags := 33
  interfaces := #[]
  cf := some (fileOf pool0 8 #[] #[{ accessFlags := 1, nameIndex := 5, descriptorIndex := 6, attributes := #[] }] 33 0 #[] #[])
  fields := #[]
  methods := #[k0m0]
  instanceTypes := #[]
  staticTypes := #[]
  resolved := Array.replicate 124 none
  statics := none }

def pool1 : Array CpInfo := pool [(2, .class_ 4), (1, u "java/lang/Object"), (0, u "<init>"), (0, u "()V"), (0, .methodref 8 9), (0, .class_ 10), (0, .nameAndType 11 12), (0, u "com/example/indagine/indagine/dataset/Attributes"), (0, u "hasOccasional"), (0, u "(I)Z"), (0, .class_ 14), (0, u "com/example/indagine/indagine/dataset/AttributesHasOccasionalPinLaw"), (2, u "law"), (0, u "(II)Z")] 3

def k1m0 : Method := { name := "<init>", desc := "()V", sig := { parameters := [], returnType := none }, accessFlags := 2, code := none }
def k1c1 : Code := { maxStack := 3, maxLocals := 7, code := code, exceptionTable := #[], attributes := #[] }
def k1m1 : Method := { name := "law", desc := "(II)Z", sig := { parameters := [.int, .int], returnType := some .boolean }, accessFlags := 9, code := some k1c1 }
/-- com/example/indagine/indagine/dataset/AttributesHasOccasionalPinLaw -/
def k1 : Class := { plain "com/example/indagine/indagine/dataset/AttributesHasOccasionalPinLaw" (some 0) with
  accessFlags := 49
  interfaces := #[]
  cf := some (fileOf pool1 13 #[] #[{ accessFlags := 2, nameIndex := 5, descriptorIndex := 6, attributes := #[] }, { accessFlags := 9, nameIndex := 17, descriptorIndex := 18, attributes := #[] }] 49 2 #[] #[])
  fields := #[]
  methods := #[k1m0, k1m1]
  instanceTypes := #[]
  staticTypes := #[]
  resolved := Array.replicate 22 none
  statics := none }

def pool2 : Array CpInfo := pool [(2, .class_ 4), (1, u "java/lang/Object"), (0, u "<init>"), (0, u "()V"), (9, u "(I)I"), (0, .methodref 18 19), (0, .class_ 20), (0, .nameAndType 21 16), (0, u "com/example/indagine/indagine/dataset/Attributes"), (0, u "sixtyFour"), (6, u "REF_DISTANCE"), (0, u "I"), (9, u "hasOccasional"), (0, u "(I)Z")] 3

def k2m0 : Method := { name := "<init>", desc := "()V", sig := { parameters := [], returnType := none }, accessFlags := 2, code := none }
def k2c1 : Code := { maxStack := 2, maxLocals := 1, code := prog_4_method_5_code, exceptionTable := #[], attributes := #[] }
def k2m1 : Method := { name := "sixtyFour", desc := "(I)I", sig := { parameters := [.int], returnType := some .int }, accessFlags := 9, code := some k2c1 }
def k2c2 : Code := { maxStack := 1, maxLocals := 1, code := prog_4_method_6_code, exceptionTable := #[], attributes := #[] }
def k2m2 : Method := { name := "hasOccasional", desc := "(I)Z", sig := { parameters := [.int], returnType := some .boolean }, accessFlags := 9, code := some k2c2 }
/-- com/example/indagine/indagine/dataset/Attributes -/
def k2 : Class := { plain "com/example/indagine/indagine/dataset/Attributes" (some 0) with
  accessFlags := 49
  interfaces := #[]
  cf := some (fileOf pool2 18 #[] #[{ accessFlags := 2, nameIndex := 5, descriptorIndex := 6, attributes := #[] }, { accessFlags := 9, nameIndex := 21, descriptorIndex := 16, attributes := #[] }, { accessFlags := 9, nameIndex := 39, descriptorIndex := 40, attributes := #[] }] 49 2 #[] #[{ accessFlags := 26, nameIndex := 28, descriptorIndex := 29, attributes := #[] }])
  fields := #[{ name := "REF_DISTANCE", type := .int, accessFlags := 26, slot := 0, constantValue := 0 }]
  methods := #[k2m0, k2m1, k2m2]
  instanceTypes := #[]
  staticTypes := #[.int]
  resolved := Array.replicate 44 none
  statics := none }

def pool3 : Array CpInfo := pool [(1, u "java/lang/Cloneable"), (0, .class_ 1), (0, u "java/lang/Object"), (0, .class_ 3)] 3

/-- java/lang/Cloneable -/
def k3 : Class := { plain "java/lang/Cloneable" (some 0) with
  accessFlags := 1537
  interfaces := #[]
  cf := some (fileOf pool3 2 #[] #[] 1537 4 #[] #[])
  fields := #[]
  methods := #[]
  instanceTypes := #[]
  staticTypes := #[]
  resolved := Array.replicate 8 none
  statics := none }

def pool4 : Array CpInfo := pool [(1, u "java/io/Serializable"), (0, .class_ 1), (0, u "java/lang/Object"), (0, .class_ 3)] 3

/-- java/io/Serializable -/
def k4 : Class := { plain "java/io/Serializable" (some 0) with
  accessFlags := 1537
  interfaces := #[]
  cf := some (fileOf pool4 2 #[] #[] 1537 4 #[] #[])
  fields := #[]
  methods := #[]
  instanceTypes := #[]
  staticTypes := #[]
  resolved := Array.replicate 8 none
  statics := none }

/-- the primitive byte -/
def k5 : Class := { plain "byte" none with kind := .primitive 'B', accessFlags := 0x411 }
/-- [B -/
def k6 : Class := { plain "[B" (some 0) with kind := .array 5 .byte, interfaces := #[3, 4], accessFlags := 1041 }

/-- the primitive int -/
def k7 : Class := { plain "int" none with kind := .primitive 'I', accessFlags := 0x411 }
/-- [I -/
def k8 : Class := { plain "[I" (some 0) with kind := .array 7 .int, interfaces := #[3, 4], accessFlags := 1041 }

def heap : Heap := #[]
def classes : Array Class := #[k0, k1, k2, k3, k4, k5, k6, k7, k8]
def interned : List (Array UInt16 × Addr) := []
def slotsUsed : Nat := 0
def theMethod : MethodId := ⟨1, 1⟩
def args0 : Array Value := #[.int 5, .int 7]
def aboutOver (below : List Frame) : State where
  vm := { classes := classes, interned := interned.toArray }
  heap := heap
  slotsUsed := slotsUsed
  threads := #[{ frames := .invoking theMethod args0 :: below }]
def below0 : List Frame := [.native { method := ⟨0, 0⟩, args := #[] }]
def about1 : State := aboutOver below0
def p0 : Program := .bare "" "" ""
def e0 : Env := launch0.env 0 0 0
theorem w_frames : about1.frames = Frame.invoking theMethod args0 :: below0 := rfl
set_option maxRecDepth 65536 in
theorem w_args : argsFit about1.vm theMethod args0 = true := by decide +kernel
set_option maxRecDepth 65536 in
theorem w_heap : heapFits about1 = true := by decide +kernel
set_option maxRecDepth 65536 in
theorem w_runnable : about1.curStatus? = some .runnable := by decide +kernel
set_option maxRecDepth 65536 in
theorem w_alone : about1.alone = true := by decide +kernel
set_option maxRecDepth 65536 in
theorem w_named : about1.methodNamed? x = some theMethod := by decide +kernel
set_option maxRecDepth 65536 in
theorem w_hears : about1.hears theMethod below0 = true := by decide +kernel
set_option maxRecDepth 65536 in
theorem w_ripe : about1.ripe theMethod args0 below0 = true := by decide +kernel
theorem w_running : about1.status = .running := rfl
set_option maxRecDepth 65536 in
theorem w_room : about1.hasRoom e0.platform room_1 = true :=
  launch0.hasRoom_least _ room_1 (by decide +kernel) (by decide +kernel) (by decide +kernel) (by decide +kernel) (by decide +kernel) (by decide +kernel)
theorem allAtoms_all (ts : List Jvm.Cond) (a : Array Jvm.Value) (st : Jvm.State) : (allAtoms ts).before a st = ts.all (fun c => c.before a st) := by
  induction ts with
  | nil => rfl
  | cons c t ih =>
    show (Jvm.Cond.and c (allAtoms t)).before a st = _
    rw [Jvm.Cond.before_and, ih, List.all_cons]
def words1 : List Jvm.Cond := Jvm.Cond.code x code maxLocals ret :: tables_1
/-- a 'code' word, met by the world's own term for the bytes: nothing is compared byte by byte -/
theorem code_word {y : MethodName} {bytes : ByteArray} {mx : Nat} {rt : Option FieldType} {a : Array Value} {s : State} {m : MethodId} {meth : Method} {c : Code} (h1 : s.methodNamed? y = some m) (h2 : s.vm.method? m = some meth) (h3 : meth.code = some c) (h4 : c.code = bytes)
    (h5 : (c.maxLocals == mx && c.exceptionTable.isEmpty && decide (c.maxStack ≤ mostOperands) && decide (meth.sig.returnType = rt) && !meth.locks && decide (parseMethodDescriptor y.desc = some meth.sig)) = true) : (Jvm.Cond.code y bytes mx rt).before a s = true := by
  simp only [Bool.and_eq_true, beq_iff_eq, Bool.not_eq_true', decide_eq_true_eq] at h5
  obtain ⟨⟨⟨⟨⟨g1, g2⟩, g3⟩, g4⟩, g5⟩, g6⟩ := h5
  simp [Cond.before, Cond.holds, Cond.value, h1, h2, h3, h4, g1, g2, g3, g4, g5, g6]
def isCode : Jvm.Cond → Bool
  | .code _ _ _ _ => true
  | _ => false
theorem all_split {L : List Jvm.Cond} {P : Jvm.Cond → Bool} (h1 : L.all (fun c => isCode c || P c) = true) (h2 : ∀ c ∈ L.filter isCode, P c = true) : L.all P = true := by
  refine List.all_eq_true.mpr fun c hc => ?_
  have h := List.all_eq_true.mp h1 c hc
  rcases Bool.eq_false_or_eq_true (isCode c) with hi | hi
  · exact h2 c (List.mem_filter.mpr ⟨hc, hi⟩)
  · simpa [hi] using h
set_option maxRecDepth 65536 in
theorem w_c0 : (Jvm.Cond.code x code maxLocals ret).before args0 about1 = true := code_word (m := ⟨1, 1⟩) (meth := k1m1) (c := k1c1) (by decide +kernel) rfl rfl rfl (by decide +kernel)
set_option maxRecDepth 65536 in
theorem w_c1 : (Jvm.Cond.code ({ cls := "com/example/indagine/indagine/dataset/Attributes", name := "hasOccasional", desc := "(I)Z" } : Jvm.MethodName) prog_4_method_6_code (1 : Nat) (Option.some Jvm.ClassFile.FieldType.boolean)).before args0 about1 = true := code_word (m := ⟨2, 2⟩) (meth := k2m2) (c := k2c2) (by decide +kernel) rfl rfl rfl (by decide +kernel)
set_option maxRecDepth 65536 in
theorem w_c2 : (Jvm.Cond.code ({ cls := "com/example/indagine/indagine/dataset/Attributes", name := "sixtyFour", desc := "(I)I" } : Jvm.MethodName) prog_4_method_5_code (1 : Nat) (Option.some Jvm.ClassFile.FieldType.int)).before args0 about1 = true := code_word (m := ⟨2, 1⟩) (meth := k2m1) (c := k2c1) (by decide +kernel) rfl rfl rfl (by decide +kernel)
def codes1 : List Jvm.Cond := [Jvm.Cond.code x code maxLocals ret, Jvm.Cond.code ({ cls := "com/example/indagine/indagine/dataset/Attributes", name := "hasOccasional", desc := "(I)Z" } : Jvm.MethodName) prog_4_method_6_code (1 : Nat) (Option.some Jvm.ClassFile.FieldType.boolean), Jvm.Cond.code ({ cls := "com/example/indagine/indagine/dataset/Attributes", name := "sixtyFour", desc := "(I)I" } : Jvm.MethodName) prog_4_method_5_code (1 : Nat) (Option.some Jvm.ClassFile.FieldType.int)]
set_option maxRecDepth 65536 in
theorem codes_eq : words1.filter isCode = codes1 := rfl
theorem w_codes : ∀ c ∈ words1.filter isCode, c.before args0 about1 = true := by
  rw [codes_eq]
  intro c hc
  simp only [codes1, List.mem_cons, List.not_mem_nil, or_false] at hc
  rcases hc with rfl | rfl | rfl
  · exact w_c0
  · exact w_c1
  · exact w_c2
set_option maxRecDepth 65536 in
theorem w_t1 : words1.all (fun c => isCode c || c.before args0 about1) = true := by decide +kernel
theorem w_tables : (allAtoms (Jvm.Cond.code x code maxLocals ret :: tables_1)).before args0 about1 = true := by
  rw [allAtoms_all]
  show words1.all (fun c => c.before args0 about1) = true
  refine all_split ?_ w_codes
  rw [w_t1]
set_option maxRecDepth 65536 in
theorem w_case : (Jvm.Cond.and given_1 narrow_1).before args0 about1 = true := by decide +kernel
theorem w_applies : (headSpec (Jvm.Cond.code x code maxLocals ret :: tables_1) room_1).applies x e0.platform about1 = true :=
  (Spec.applies_iff w_frames).mpr ⟨w_running, w_runnable, w_alone, w_named, w_hears, w_ripe, w_room, w_tables⟩
theorem atStart : AtStart classFile x code maxLocals ret World_1 tables_1 room_1 Calls_1 rest_1 Pre_1 launch0 p0 e0 about1 theMethod args0 below0 :=
  ⟨lists_1, trivial, launch0.admits_env _ _ _, launch0.least_env, fairChoices_fair.cas, fairChoices_fair.clock, w_frames, w_args, w_heap, w_applies, trivial, trivial, w_case⟩
end start1
theorem witness_1 : WitnessClaimed_1 := ⟨start1.p0, start1.e0, start1.about1, start1.theMethod, start1.args0, start1.below0, start1.atStart⟩
end Jvm.Pilot.@@N@@
