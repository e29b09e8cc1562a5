import JvmDerived
import JvmDerived.Pilot.@@N@@Statement
import JvmDerived.Pilot.@@N@@Code
set_option linter.unusedVariables false
set_option linter.unusedSimpArgs false
namespace Jvm.RoadKit
open Sem ClassFile Op Lib Jvm.Stand Jvm.Free Jvm.LawKit
section New
variable {p : Program} {l : Launch} {e : Env} {R : Room} {s : State} {m : MethodId} {args : Array Value} {below : List Frame} {meth : Method} {c : Code} {T : State} {locs : List Loc} {cells slots : Nat}
theorem retI (X : Stand p l e R s m args below meth c T locs cells slots) (hx : p.tables.exec = Jvm.exec) {pc : Nat} {Ls : Array Slot} {z : Int32} {rest : List Value} (hret : meth.sig.returnType = some .int) (hd : decode c.code pc = .ok (.ireturn, 1)) {fs : List Frame}
    (hl : ∀ (f : JFrame) (acts : List Action), f.method = m → f.locked = none → f.entered = [] → (doReturn e (T.setTop f) acts (some (.int z))).1 = T.setFrames fs) : Steps p.tables e below (T.setTop (mkF m pc Ls (.int z :: rest))) (T.setFrames fs) := by
  have hm' : T.vm.method? m = some meth := X.method'
  have hn : narrow .int (.int z) = .int z := rfl
  show Steps p.tables e below (T.setTop { method := m, pc := pc, locals := Ls, stack := _ :: rest, locked := none }) _
  jvm_step X.here [X.here.top, hx, hd, hm', hret, hn]
  first | (intro acts; rw [hl _ acts rfl rfl rfl]) | rw [hl _ _ rfl rfl rfl]
  exact Steps.refl _
end New
end Jvm.RoadKit
namespace Jvm.Pilot.@@N@@
open Jvm Jvm.ClassFile Sem Op Lib Jvm.Free Jvm.Stand Jvm.LawKit Jvm.RoadKit Bundle Jvm.Pilot.@@N@@.Jvm.D
theorem pd_0 : parseMethodDescriptor "(I)Z" = some ⟨[.int], some .boolean⟩ := by decide +kernel
theorem d1_0 : decode prog_22_method_3_code 0 = .ok (.iload_n 0, 1) := by decide +kernel
theorem d1_1 : decode prog_22_method_3_code 1 = .ok (.bipush 65, 2) := by decide +kernel
theorem d1_3 : decode prog_22_method_3_code 3 = .ok (.if_icmp .lt 9, 3) := by decide +kernel
theorem d1_6 : decode prog_22_method_3_code 6 = .ok (.iload_n 0, 1) := by decide +kernel
theorem d1_7 : decode prog_22_method_3_code 7 = .ok (.bipush 90, 2) := by decide +kernel
theorem d1_9 : decode prog_22_method_3_code 9 = .ok (.if_icmp .le 51, 3) := by decide +kernel
theorem d1_12 : decode prog_22_method_3_code 12 = .ok (.iload_n 0, 1) := by decide +kernel
theorem d1_13 : decode prog_22_method_3_code 13 = .ok (.bipush 97, 2) := by decide +kernel
theorem d1_15 : decode prog_22_method_3_code 15 = .ok (.if_icmp .lt 9, 3) := by decide +kernel
theorem d1_18 : decode prog_22_method_3_code 18 = .ok (.iload_n 0, 1) := by decide +kernel
theorem d1_19 : decode prog_22_method_3_code 19 = .ok (.bipush 122, 2) := by decide +kernel
theorem d1_21 : decode prog_22_method_3_code 21 = .ok (.if_icmp .le 39, 3) := by decide +kernel
theorem d1_24 : decode prog_22_method_3_code 24 = .ok (.iload_n 0, 1) := by decide +kernel
theorem d1_25 : decode prog_22_method_3_code 25 = .ok (.bipush 48, 2) := by decide +kernel
theorem d1_27 : decode prog_22_method_3_code 27 = .ok (.if_icmp .lt 9, 3) := by decide +kernel
theorem d1_30 : decode prog_22_method_3_code 30 = .ok (.iload_n 0, 1) := by decide +kernel
theorem d1_31 : decode prog_22_method_3_code 31 = .ok (.bipush 57, 2) := by decide +kernel
theorem d1_33 : decode prog_22_method_3_code 33 = .ok (.if_icmp .le 27, 3) := by decide +kernel
theorem d1_36 : decode prog_22_method_3_code 36 = .ok (.iload_n 0, 1) := by decide +kernel
theorem d1_37 : decode prog_22_method_3_code 37 = .ok (.bipush 45, 2) := by decide +kernel
theorem d1_39 : decode prog_22_method_3_code 39 = .ok (.if_icmp .eq 21, 3) := by decide +kernel
theorem d1_42 : decode prog_22_method_3_code 42 = .ok (.iload_n 0, 1) := by decide +kernel
theorem d1_43 : decode prog_22_method_3_code 43 = .ok (.bipush 46, 2) := by decide +kernel
theorem d1_45 : decode prog_22_method_3_code 45 = .ok (.if_icmp .eq 15, 3) := by decide +kernel
theorem d1_48 : decode prog_22_method_3_code 48 = .ok (.iload_n 0, 1) := by decide +kernel
theorem d1_49 : decode prog_22_method_3_code 49 = .ok (.bipush 95, 2) := by decide +kernel
theorem d1_51 : decode prog_22_method_3_code 51 = .ok (.if_icmp .eq 9, 3) := by decide +kernel
theorem d1_54 : decode prog_22_method_3_code 54 = .ok (.iload_n 0, 1) := by decide +kernel
theorem d1_55 : decode prog_22_method_3_code 55 = .ok (.bipush 126, 2) := by decide +kernel
theorem d1_57 : decode prog_22_method_3_code 57 = .ok (.if_icmp .ne 7, 3) := by decide +kernel
theorem d1_60 : decode prog_22_method_3_code 60 = .ok (.iconst 1, 1) := by decide +kernel
theorem d1_61 : decode prog_22_method_3_code 61 = .ok (.goto 4, 3) := by decide +kernel
theorem d1_64 : decode prog_22_method_3_code 64 = .ok (.iconst 0, 1) := by decide +kernel
theorem d1_65 : decode prog_22_method_3_code 65 = .ok (.ireturn, 1) := by decide +kernel
theorem d2_0 : decode method_2_code 0 = .ok (.iload_n 0, 1) := by decide +kernel
theorem d2_1 : decode method_2_code 1 = .ok (.ifCond .lt 9, 3) := by decide +kernel
theorem d2_4 : decode method_2_code 4 = .ok (.iload_n 0, 1) := by decide +kernel
theorem d2_5 : decode method_2_code 5 = .ok (.bipush 127, 2) := by decide +kernel
theorem d2_7 : decode method_2_code 7 = .ok (.if_icmp .le 5, 3) := by decide +kernel
theorem d2_10 : decode method_2_code 10 = .ok (.iconst 0, 1) := by decide +kernel
theorem d2_11 : decode method_2_code 11 = .ok (.ireturn, 1) := by decide +kernel
theorem d2_12 : decode method_2_code 12 = .ok (.iload_n 0, 1) := by decide +kernel
theorem d2_13 : decode method_2_code 13 = .ok (.bipush 64, 2) := by decide +kernel
theorem d2_15 : decode method_2_code 15 = .ok (.if_icmp .ge 21, 3) := by decide +kernel
theorem d2_18 : decode method_2_code 18 = .ok (.ldc2_w 9, 3) := by decide +kernel
theorem d2_21 : decode method_2_code 21 = .ok (.iload_n 0, 1) := by decide +kernel
theorem d2_22 : decode method_2_code 22 = .ok (.lushr, 1) := by decide +kernel
theorem d2_23 : decode method_2_code 23 = .ok (.lconst 1, 1) := by decide +kernel
theorem d2_24 : decode method_2_code 24 = .ok (.land, 1) := by decide +kernel
theorem d2_25 : decode method_2_code 25 = .ok (.lconst 0, 1) := by decide +kernel
theorem d2_26 : decode method_2_code 26 = .ok (.lcmp, 1) := by decide +kernel
theorem d2_27 : decode method_2_code 27 = .ok (.ifCond .eq 7, 3) := by decide +kernel
theorem d2_30 : decode method_2_code 30 = .ok (.iconst 1, 1) := by decide +kernel
theorem d2_31 : decode method_2_code 31 = .ok (.goto 4, 3) := by decide +kernel
theorem d2_34 : decode method_2_code 34 = .ok (.iconst 0, 1) := by decide +kernel
theorem d2_35 : decode method_2_code 35 = .ok (.ireturn, 1) := by decide +kernel
theorem d2_36 : decode method_2_code 36 = .ok (.ldc2_w 11, 3) := by decide +kernel
theorem d2_39 : decode method_2_code 39 = .ok (.iload_n 0, 1) := by decide +kernel
theorem d2_40 : decode method_2_code 40 = .ok (.bipush 64, 2) := by decide +kernel
theorem d2_42 : decode method_2_code 42 = .ok (.isub, 1) := by decide +kernel
theorem d2_43 : decode method_2_code 43 = .ok (.lushr, 1) := by decide +kernel
theorem d2_44 : decode method_2_code 44 = .ok (.lconst 1, 1) := by decide +kernel
theorem d2_45 : decode method_2_code 45 = .ok (.land, 1) := by decide +kernel
theorem d2_46 : decode method_2_code 46 = .ok (.lconst 0, 1) := by decide +kernel
theorem d2_47 : decode method_2_code 47 = .ok (.lcmp, 1) := by decide +kernel
theorem d2_48 : decode method_2_code 48 = .ok (.ifCond .eq 7, 3) := by decide +kernel
theorem d2_51 : decode method_2_code 51 = .ok (.iconst 1, 1) := by decide +kernel
theorem d2_52 : decode method_2_code 52 = .ok (.goto 4, 3) := by decide +kernel
theorem d2_55 : decode method_2_code 55 = .ok (.iconst 0, 1) := by decide +kernel
theorem d2_56 : decode method_2_code 56 = .ok (.ireturn, 1) := by decide +kernel
def fU (p : Int32) : Int32 := if ¬ p < 65 ∧ ¬ 90 < p then 1 else if ¬ p < 97 ∧ ¬ 122 < p then 1 else if ¬ p < 48 ∧ ¬ 57 < p then 1 else if p = 45 then 1 else if p = 46 then 1 else if p = 95 then 1 else if p = 126 then 1 else 0
def bitLo (p : Int32) : Int32 := lcmpW ((((288054454291267584 : Int64).toUInt64 >>> (p &&& 0x3f).toInt64.toUInt64).toInt64) &&& (1 : Int64)) (0 : Int64)
def bitHi (p : Int32) : Int32 := lcmpW ((((5188146764422578174 : Int64).toUInt64 >>> ((p - (64 : Int32)) &&& 0x3f).toInt64.toUInt64).toInt64) &&& (1 : Int64)) (0 : Int64)
def fR (p : Int32) : Int32 := if p < 0 then 0 else if 127 < p then 0 else if p < 64 then (if bitLo p = 0 then 0 else 1) else (if bitHi p = 0 then 0 else 1)
def Q1 (Z : State) (p1 : Int32) (h0 : Heap) (n0 : Nat) (v : Option Value) (h : Heap) (L : List Loc) : Prop := v = some (.int (fU p1)) ∧ Fr n0 L ∧ h = h0
def Q2 (Z : State) (p1 : Int32) (h0 : Heap) (n0 : Nat) (v : Option Value) (h : Heap) (L : List Loc) : Prop := v = some (.int (fR p1)) ∧ Fr n0 L ∧ h = h0
theorem pn_1 : plainName "com/example/cardstock/cardstock/PercentEncoding" = true := by first | (simp [plainName, overriddenIn]; done) | decide +kernel
theorem ef_1 (m : MethodId) (p1 : Int32) : entryFrame m #[(.int p1)] 1 = mkF m 0 #[.val (.int p1)] [] := by first | (simp [entryFrame, mkF, argsToLocals, Value.category]; done) | rfl
set_option maxRecDepth 65536 in
set_option maxHeartbeats 40000000 in
theorem rm1 (l : Launch) (Z : State) (a0 : Array Value) (hw : ∀ d ∈ tables_1, d.before a0 Z = true) (ws : List Jvm.Cond) (p1 : Int32)  (h0 : Heap) (n0 : Nat) (Z0 : n0 ≤ h0.size)  :
    MetFree l (⟨"com/example/cardstock/cardstock/PercentEncoding", "isUnreserved", "(I)Z"⟩ : MethodName) (head1 (Jvm.Cond.code (⟨"com/example/cardstock/cardstock/PercentEncoding", "isUnreserved", "(I)Z"⟩ : MethodName) prog_22_method_3_code 1 (some .boolean) :: ws) ({ frames := 0, cells := 0, slots := 0, locals := 0 } : Room)) (fun a U => a = #[(.int p1)] ∧ Z.Warmed39 U.vm ∧ U.heap = h0) (fun _ _ _ _ _ => True) (fun _ U o U' => ∃ v L, o = .returned v ∧ Q1 Z p1 h0 n0 v U'.heap L ∧ FrameEnd U o U' L ({ frames := 0, cells := 0, slots := 0, locals := 0 } : Room).cells ({ frames := 0, cells := 0, slots := 0, locals := 0 } : Room).slots) := by
  refine MetFree.of_bodySF (plainFor_of_name pn_1) hisR ?_
  intro p e s m args below meth c s₁ Bd hml0 hP hK
  obtain ⟨rfl, hZ, hh⟩ := hP
  have hx := Bd.exec
  have hby := Bd.bytes
  have hml : c.maxLocals = 1 := hml0
  have hown : s.vm.findClass "com/example/cardstock/cardstock/PercentEncoding" = some m.cls := findClass_of_methodNamed Bd.named
  have hnm := (name_of_methodNamed Bd.named Bd.method).1
  have X0 : Stand p l e ({ frames := 0, cells := 0, slots := 0, locals := 0 } : Room) s m #[(.int p1)] below meth c s₁ [] 0 0 := Stand.of_body Bd
  have e0 : s₁.heap = h0 := by rw [← hh, Bd.state]; rfl
  have N0 := Fr.nil n0
  have pre0 : Goes p e below s₁ (entryFrame m #[(.int p1)] 1) s₁ (mkF m 0 #[.val (.int p1)] []) := fun t k => castTop (ef_1 m p1) k
  have pre1 : Goes p e below s₁ (entryFrame m #[(.int p1)] 1) s₁ (mkF m 3 #[.val (.int p1)] [(.int (65 : Int32)), (.int p1)]) := fun t k => pre0 t (by
      refine XS.iloadN X0.here hx rfl (hb hby d1_0) rfl ?_
      show Steps p.tables e below (s₁.setTop (mkF m 1 #[.val (.int p1)] [(.int p1)])) _
      refine XS.bipush X0.here hx rfl (hb hby d1_1) ?_
      show Steps p.tables e below (s₁.setTop (mkF m 3 #[.val (.int p1)] [(.int (65 : Int32)), (.int p1)])) _
      exact k)
  by_cases hc2 : p1 < (65 : Int32)
  · skip
    have pre3 : Goes p e below s₁ (entryFrame m #[(.int p1)] 1) s₁ (mkF m 15 #[.val (.int p1)] [(.int (97 : Int32)), (.int p1)]) := fun t k => pre1 t (by
        refine XS.icmpYes X0.here hx rfl (pc0 := 3) (pc' := 12) rfl (hb hby d1_3) rfl (tlt hc2).1 (by decide) (by decide) ?_
        show Steps p.tables e below (s₁.setTop (mkF m 12 #[.val (.int p1)] [])) _
        refine XS.iloadN X0.here hx rfl (hb hby d1_12) rfl ?_
        show Steps p.tables e below (s₁.setTop (mkF m 13 #[.val (.int p1)] [(.int p1)])) _
        refine XS.bipush X0.here hx rfl (hb hby d1_13) ?_
        show Steps p.tables e below (s₁.setTop (mkF m 15 #[.val (.int p1)] [(.int (97 : Int32)), (.int p1)])) _
        exact k)
    by_cases hc4 : p1 < (97 : Int32)
    · skip
      have pre5 : Goes p e below s₁ (entryFrame m #[(.int p1)] 1) s₁ (mkF m 27 #[.val (.int p1)] [(.int (48 : Int32)), (.int p1)]) := fun t k => pre3 t (by
          refine XS.icmpYes X0.here hx rfl (pc0 := 15) (pc' := 24) rfl (hb hby d1_15) rfl (tlt hc4).1 (by decide) (by decide) ?_
          show Steps p.tables e below (s₁.setTop (mkF m 24 #[.val (.int p1)] [])) _
          refine XS.iloadN X0.here hx rfl (hb hby d1_24) rfl ?_
          show Steps p.tables e below (s₁.setTop (mkF m 25 #[.val (.int p1)] [(.int p1)])) _
          refine XS.bipush X0.here hx rfl (hb hby d1_25) ?_
          show Steps p.tables e below (s₁.setTop (mkF m 27 #[.val (.int p1)] [(.int (48 : Int32)), (.int p1)])) _
          exact k)
      by_cases hc6 : p1 < (48 : Int32)
      · skip
        have pre7 : Goes p e below s₁ (entryFrame m #[(.int p1)] 1) s₁ (mkF m 39 #[.val (.int p1)] [(.int (45 : Int32)), (.int p1)]) := fun t k => pre5 t (by
            refine XS.icmpYes X0.here hx rfl (pc0 := 27) (pc' := 36) rfl (hb hby d1_27) rfl (tlt hc6).1 (by decide) (by decide) ?_
            show Steps p.tables e below (s₁.setTop (mkF m 36 #[.val (.int p1)] [])) _
            refine XS.iloadN X0.here hx rfl (hb hby d1_36) rfl ?_
            show Steps p.tables e below (s₁.setTop (mkF m 37 #[.val (.int p1)] [(.int p1)])) _
            refine XS.bipush X0.here hx rfl (hb hby d1_37) ?_
            show Steps p.tables e below (s₁.setTop (mkF m 39 #[.val (.int p1)] [(.int (45 : Int32)), (.int p1)])) _
            exact k)
        by_cases hc8 : p1 = (45 : Int32)
        · skip
          have pre9 : Goes p e below s₁ (entryFrame m #[(.int p1)] 1) s₁ (mkF m 65 #[.val (.int p1)] [(.int (1 : Int32))]) := fun t k => pre7 t (by
              refine XS.icmpYes X0.here hx rfl (pc0 := 39) (pc' := 60) rfl (hb hby d1_39) rfl (teq hc8).1 (by decide) (by decide) ?_
              show Steps p.tables e below (s₁.setTop (mkF m 60 #[.val (.int p1)] [])) _
              refine XS.iconst X0.here hx rfl (hb hby d1_60) ?_
              show Steps p.tables e below (s₁.setTop (mkF m 61 #[.val (.int p1)] [(.int (1 : Int32))])) _
              refine XS.goto X0.here hx rfl (pc0 := 61) (pc' := 65) rfl (hb hby d1_61) (by decide) (by decide) ?_
              show Steps p.tables e below (s₁.setTop (mkF m 65 #[.val (.int p1)] [(.int (1 : Int32))])) _
              exact k)
          obtain ⟨fs, hr, hrun, hended, hW, hsame⟩ := X0.leave (v := some (.int (1 : Int32))) (fun h => by rw [Bd.returns] at h; cases h)
          refine ⟨_, _, pre9 _ (retN X0 hx (t := .boolean) Bd.returns (by simp) (hb hby d1_65) hr), hrun, hended, _, _, rfl, ?_, ⟨_, rfl⟩, hW, hsame.mono (by decide) (by decide)⟩
          show Q1 Z p1 h0 n0 _ s₁.heap _
          rw [e0]
          exact ⟨by simp [fU, hc2, hc4, hc6, hc8], N0, rfl⟩
        · skip
          have pre10 : Goes p e below s₁ (entryFrame m #[(.int p1)] 1) s₁ (mkF m 45 #[.val (.int p1)] [(.int (46 : Int32)), (.int p1)]) := fun t k => pre7 t (by
              refine XS.icmpNo X0.here hx rfl (hb hby d1_39) rfl (feq hc8).1 ?_
              show Steps p.tables e below (s₁.setTop (mkF m 42 #[.val (.int p1)] [])) _
              refine XS.iloadN X0.here hx rfl (hb hby d1_42) rfl ?_
              show Steps p.tables e below (s₁.setTop (mkF m 43 #[.val (.int p1)] [(.int p1)])) _
              refine XS.bipush X0.here hx rfl (hb hby d1_43) ?_
              show Steps p.tables e below (s₁.setTop (mkF m 45 #[.val (.int p1)] [(.int (46 : Int32)), (.int p1)])) _
              exact k)
          by_cases hc11 : p1 = (46 : Int32)
          · skip
            have pre12 : Goes p e below s₁ (entryFrame m #[(.int p1)] 1) s₁ (mkF m 65 #[.val (.int p1)] [(.int (1 : Int32))]) := fun t k => pre10 t (by
                refine XS.icmpYes X0.here hx rfl (pc0 := 45) (pc' := 60) rfl (hb hby d1_45) rfl (teq hc11).1 (by decide) (by decide) ?_
                show Steps p.tables e below (s₁.setTop (mkF m 60 #[.val (.int p1)] [])) _
                refine XS.iconst X0.here hx rfl (hb hby d1_60) ?_
                show Steps p.tables e below (s₁.setTop (mkF m 61 #[.val (.int p1)] [(.int (1 : Int32))])) _
                refine XS.goto X0.here hx rfl (pc0 := 61) (pc' := 65) rfl (hb hby d1_61) (by decide) (by decide) ?_
                show Steps p.tables e below (s₁.setTop (mkF m 65 #[.val (.int p1)] [(.int (1 : Int32))])) _
                exact k)
            obtain ⟨fs, hr, hrun, hended, hW, hsame⟩ := X0.leave (v := some (.int (1 : Int32))) (fun h => by rw [Bd.returns] at h; cases h)
            refine ⟨_, _, pre12 _ (retN X0 hx (t := .boolean) Bd.returns (by simp) (hb hby d1_65) hr), hrun, hended, _, _, rfl, ?_, ⟨_, rfl⟩, hW, hsame.mono (by decide) (by decide)⟩
            show Q1 Z p1 h0 n0 _ s₁.heap _
            rw [e0]
            exact ⟨by simp [fU, hc2, hc4, hc6, hc8, hc11], N0, rfl⟩
          · skip
            have pre13 : Goes p e below s₁ (entryFrame m #[(.int p1)] 1) s₁ (mkF m 51 #[.val (.int p1)] [(.int (95 : Int32)), (.int p1)]) := fun t k => pre10 t (by
                refine XS.icmpNo X0.here hx rfl (hb hby d1_45) rfl (feq hc11).1 ?_
                show Steps p.tables e below (s₁.setTop (mkF m 48 #[.val (.int p1)] [])) _
                refine XS.iloadN X0.here hx rfl (hb hby d1_48) rfl ?_
                show Steps p.tables e below (s₁.setTop (mkF m 49 #[.val (.int p1)] [(.int p1)])) _
                refine XS.bipush X0.here hx rfl (hb hby d1_49) ?_
                show Steps p.tables e below (s₁.setTop (mkF m 51 #[.val (.int p1)] [(.int (95 : Int32)), (.int p1)])) _
                exact k)
            by_cases hc14 : p1 = (95 : Int32)
            · skip
              have pre15 : Goes p e below s₁ (entryFrame m #[(.int p1)] 1) s₁ (mkF m 65 #[.val (.int p1)] [(.int (1 : Int32))]) := fun t k => pre13 t (by
                  refine XS.icmpYes X0.here hx rfl (pc0 := 51) (pc' := 60) rfl (hb hby d1_51) rfl (teq hc14).1 (by decide) (by decide) ?_
                  show Steps p.tables e below (s₁.setTop (mkF m 60 #[.val (.int p1)] [])) _
                  refine XS.iconst X0.here hx rfl (hb hby d1_60) ?_
                  show Steps p.tables e below (s₁.setTop (mkF m 61 #[.val (.int p1)] [(.int (1 : Int32))])) _
                  refine XS.goto X0.here hx rfl (pc0 := 61) (pc' := 65) rfl (hb hby d1_61) (by decide) (by decide) ?_
                  show Steps p.tables e below (s₁.setTop (mkF m 65 #[.val (.int p1)] [(.int (1 : Int32))])) _
                  exact k)
              obtain ⟨fs, hr, hrun, hended, hW, hsame⟩ := X0.leave (v := some (.int (1 : Int32))) (fun h => by rw [Bd.returns] at h; cases h)
              refine ⟨_, _, pre15 _ (retN X0 hx (t := .boolean) Bd.returns (by simp) (hb hby d1_65) hr), hrun, hended, _, _, rfl, ?_, ⟨_, rfl⟩, hW, hsame.mono (by decide) (by decide)⟩
              show Q1 Z p1 h0 n0 _ s₁.heap _
              rw [e0]
              exact ⟨by simp [fU, hc2, hc4, hc6, hc8, hc11, hc14], N0, rfl⟩
            · skip
              have pre16 : Goes p e below s₁ (entryFrame m #[(.int p1)] 1) s₁ (mkF m 57 #[.val (.int p1)] [(.int (126 : Int32)), (.int p1)]) := fun t k => pre13 t (by
                  refine XS.icmpNo X0.here hx rfl (hb hby d1_51) rfl (feq hc14).1 ?_
                  show Steps p.tables e below (s₁.setTop (mkF m 54 #[.val (.int p1)] [])) _
                  refine XS.iloadN X0.here hx rfl (hb hby d1_54) rfl ?_
                  show Steps p.tables e below (s₁.setTop (mkF m 55 #[.val (.int p1)] [(.int p1)])) _
                  refine XS.bipush X0.here hx rfl (hb hby d1_55) ?_
                  show Steps p.tables e below (s₁.setTop (mkF m 57 #[.val (.int p1)] [(.int (126 : Int32)), (.int p1)])) _
                  exact k)
              by_cases hc17 : p1 = (126 : Int32)
              · skip
                have pre18 : Goes p e below s₁ (entryFrame m #[(.int p1)] 1) s₁ (mkF m 65 #[.val (.int p1)] [(.int (1 : Int32))]) := fun t k => pre16 t (by
                    refine XS.icmpNo X0.here hx rfl (hb hby d1_57) rfl (teq hc17).2 ?_
                    show Steps p.tables e below (s₁.setTop (mkF m 60 #[.val (.int p1)] [])) _
                    refine XS.iconst X0.here hx rfl (hb hby d1_60) ?_
                    show Steps p.tables e below (s₁.setTop (mkF m 61 #[.val (.int p1)] [(.int (1 : Int32))])) _
                    refine XS.goto X0.here hx rfl (pc0 := 61) (pc' := 65) rfl (hb hby d1_61) (by decide) (by decide) ?_
                    show Steps p.tables e below (s₁.setTop (mkF m 65 #[.val (.int p1)] [(.int (1 : Int32))])) _
                    exact k)
                obtain ⟨fs, hr, hrun, hended, hW, hsame⟩ := X0.leave (v := some (.int (1 : Int32))) (fun h => by rw [Bd.returns] at h; cases h)
                refine ⟨_, _, pre18 _ (retN X0 hx (t := .boolean) Bd.returns (by simp) (hb hby d1_65) hr), hrun, hended, _, _, rfl, ?_, ⟨_, rfl⟩, hW, hsame.mono (by decide) (by decide)⟩
                show Q1 Z p1 h0 n0 _ s₁.heap _
                rw [e0]
                exact ⟨by simp [fU, hc2, hc4, hc6, hc8, hc11, hc14, hc17], N0, rfl⟩
              · skip
                have pre19 : Goes p e below s₁ (entryFrame m #[(.int p1)] 1) s₁ (mkF m 65 #[.val (.int p1)] [(.int (0 : Int32))]) := fun t k => pre16 t (by
                    refine XS.icmpYes X0.here hx rfl (pc0 := 57) (pc' := 64) rfl (hb hby d1_57) rfl (feq hc17).2 (by decide) (by decide) ?_
                    show Steps p.tables e below (s₁.setTop (mkF m 64 #[.val (.int p1)] [])) _
                    refine XS.iconst X0.here hx rfl (hb hby d1_64) ?_
                    show Steps p.tables e below (s₁.setTop (mkF m 65 #[.val (.int p1)] [(.int (0 : Int32))])) _
                    exact k)
                obtain ⟨fs, hr, hrun, hended, hW, hsame⟩ := X0.leave (v := some (.int (0 : Int32))) (fun h => by rw [Bd.returns] at h; cases h)
                refine ⟨_, _, pre19 _ (retN X0 hx (t := .boolean) Bd.returns (by simp) (hb hby d1_65) hr), hrun, hended, _, _, rfl, ?_, ⟨_, rfl⟩, hW, hsame.mono (by decide) (by decide)⟩
                show Q1 Z p1 h0 n0 _ s₁.heap _
                rw [e0]
                exact ⟨by simp [fU, hc2, hc4, hc6, hc8, hc11, hc14, hc17], N0, rfl⟩
      · skip
        have pre20 : Goes p e below s₁ (entryFrame m #[(.int p1)] 1) s₁ (mkF m 33 #[.val (.int p1)] [(.int (57 : Int32)), (.int p1)]) := fun t k => pre5 t (by
            refine XS.icmpNo X0.here hx rfl (hb hby d1_27) rfl (flt hc6).1 ?_
            show Steps p.tables e below (s₁.setTop (mkF m 30 #[.val (.int p1)] [])) _
            refine XS.iloadN X0.here hx rfl (hb hby d1_30) rfl ?_
            show Steps p.tables e below (s₁.setTop (mkF m 31 #[.val (.int p1)] [(.int p1)])) _
            refine XS.bipush X0.here hx rfl (hb hby d1_31) ?_
            show Steps p.tables e below (s₁.setTop (mkF m 33 #[.val (.int p1)] [(.int (57 : Int32)), (.int p1)])) _
            exact k)
        by_cases hc21 : (57 : Int32) < p1
        · skip
          have pre22 : Goes p e below s₁ (entryFrame m #[(.int p1)] 1) s₁ (mkF m 39 #[.val (.int p1)] [(.int (45 : Int32)), (.int p1)]) := fun t k => pre20 t (by
              refine XS.icmpNo X0.here hx rfl (hb hby d1_33) rfl (tlt hc21).2.2.2 ?_
              show Steps p.tables e below (s₁.setTop (mkF m 36 #[.val (.int p1)] [])) _
              refine XS.iloadN X0.here hx rfl (hb hby d1_36) rfl ?_
              show Steps p.tables e below (s₁.setTop (mkF m 37 #[.val (.int p1)] [(.int p1)])) _
              refine XS.bipush X0.here hx rfl (hb hby d1_37) ?_
              show Steps p.tables e below (s₁.setTop (mkF m 39 #[.val (.int p1)] [(.int (45 : Int32)), (.int p1)])) _
              exact k)
          by_cases hc23 : p1 = (45 : Int32)
          · skip
            have pre24 : Goes p e below s₁ (entryFrame m #[(.int p1)] 1) s₁ (mkF m 65 #[.val (.int p1)] [(.int (1 : Int32))]) := fun t k => pre22 t (by
                refine XS.icmpYes X0.here hx rfl (pc0 := 39) (pc' := 60) rfl (hb hby d1_39) rfl (teq hc23).1 (by decide) (by decide) ?_
                show Steps p.tables e below (s₁.setTop (mkF m 60 #[.val (.int p1)] [])) _
                refine XS.iconst X0.here hx rfl (hb hby d1_60) ?_
                show Steps p.tables e below (s₁.setTop (mkF m 61 #[.val (.int p1)] [(.int (1 : Int32))])) _
                refine XS.goto X0.here hx rfl (pc0 := 61) (pc' := 65) rfl (hb hby d1_61) (by decide) (by decide) ?_
                show Steps p.tables e below (s₁.setTop (mkF m 65 #[.val (.int p1)] [(.int (1 : Int32))])) _
                exact k)
            obtain ⟨fs, hr, hrun, hended, hW, hsame⟩ := X0.leave (v := some (.int (1 : Int32))) (fun h => by rw [Bd.returns] at h; cases h)
            refine ⟨_, _, pre24 _ (retN X0 hx (t := .boolean) Bd.returns (by simp) (hb hby d1_65) hr), hrun, hended, _, _, rfl, ?_, ⟨_, rfl⟩, hW, hsame.mono (by decide) (by decide)⟩
            show Q1 Z p1 h0 n0 _ s₁.heap _
            rw [e0]
            exact ⟨by simp [fU, hc2, hc4, hc6, hc21, hc23], N0, rfl⟩
          · skip
            have pre25 : Goes p e below s₁ (entryFrame m #[(.int p1)] 1) s₁ (mkF m 45 #[.val (.int p1)] [(.int (46 : Int32)), (.int p1)]) := fun t k => pre22 t (by
                refine XS.icmpNo X0.here hx rfl (hb hby d1_39) rfl (feq hc23).1 ?_
                show Steps p.tables e below (s₁.setTop (mkF m 42 #[.val (.int p1)] [])) _
                refine XS.iloadN X0.here hx rfl (hb hby d1_42) rfl ?_
                show Steps p.tables e below (s₁.setTop (mkF m 43 #[.val (.int p1)] [(.int p1)])) _
                refine XS.bipush X0.here hx rfl (hb hby d1_43) ?_
                show Steps p.tables e below (s₁.setTop (mkF m 45 #[.val (.int p1)] [(.int (46 : Int32)), (.int p1)])) _
                exact k)
            by_cases hc26 : p1 = (46 : Int32)
            · skip
              have pre27 : Goes p e below s₁ (entryFrame m #[(.int p1)] 1) s₁ (mkF m 65 #[.val (.int p1)] [(.int (1 : Int32))]) := fun t k => pre25 t (by
                  refine XS.icmpYes X0.here hx rfl (pc0 := 45) (pc' := 60) rfl (hb hby d1_45) rfl (teq hc26).1 (by decide) (by decide) ?_
                  show Steps p.tables e below (s₁.setTop (mkF m 60 #[.val (.int p1)] [])) _
                  refine XS.iconst X0.here hx rfl (hb hby d1_60) ?_
                  show Steps p.tables e below (s₁.setTop (mkF m 61 #[.val (.int p1)] [(.int (1 : Int32))])) _
                  refine XS.goto X0.here hx rfl (pc0 := 61) (pc' := 65) rfl (hb hby d1_61) (by decide) (by decide) ?_
                  show Steps p.tables e below (s₁.setTop (mkF m 65 #[.val (.int p1)] [(.int (1 : Int32))])) _
                  exact k)
              obtain ⟨fs, hr, hrun, hended, hW, hsame⟩ := X0.leave (v := some (.int (1 : Int32))) (fun h => by rw [Bd.returns] at h; cases h)
              refine ⟨_, _, pre27 _ (retN X0 hx (t := .boolean) Bd.returns (by simp) (hb hby d1_65) hr), hrun, hended, _, _, rfl, ?_, ⟨_, rfl⟩, hW, hsame.mono (by decide) (by decide)⟩
              show Q1 Z p1 h0 n0 _ s₁.heap _
              rw [e0]
              exact ⟨by simp [fU, hc2, hc4, hc6, hc21, hc23, hc26], N0, rfl⟩
            · skip
              have pre28 : Goes p e below s₁ (entryFrame m #[(.int p1)] 1) s₁ (mkF m 51 #[.val (.int p1)] [(.int (95 : Int32)), (.int p1)]) := fun t k => pre25 t (by
                  refine XS.icmpNo X0.here hx rfl (hb hby d1_45) rfl (feq hc26).1 ?_
                  show Steps p.tables e below (s₁.setTop (mkF m 48 #[.val (.int p1)] [])) _
                  refine XS.iloadN X0.here hx rfl (hb hby d1_48) rfl ?_
                  show Steps p.tables e below (s₁.setTop (mkF m 49 #[.val (.int p1)] [(.int p1)])) _
                  refine XS.bipush X0.here hx rfl (hb hby d1_49) ?_
                  show Steps p.tables e below (s₁.setTop (mkF m 51 #[.val (.int p1)] [(.int (95 : Int32)), (.int p1)])) _
                  exact k)
              by_cases hc29 : p1 = (95 : Int32)
              · skip
                have pre30 : Goes p e below s₁ (entryFrame m #[(.int p1)] 1) s₁ (mkF m 65 #[.val (.int p1)] [(.int (1 : Int32))]) := fun t k => pre28 t (by
                    refine XS.icmpYes X0.here hx rfl (pc0 := 51) (pc' := 60) rfl (hb hby d1_51) rfl (teq hc29).1 (by decide) (by decide) ?_
                    show Steps p.tables e below (s₁.setTop (mkF m 60 #[.val (.int p1)] [])) _
                    refine XS.iconst X0.here hx rfl (hb hby d1_60) ?_
                    show Steps p.tables e below (s₁.setTop (mkF m 61 #[.val (.int p1)] [(.int (1 : Int32))])) _
                    refine XS.goto X0.here hx rfl (pc0 := 61) (pc' := 65) rfl (hb hby d1_61) (by decide) (by decide) ?_
                    show Steps p.tables e below (s₁.setTop (mkF m 65 #[.val (.int p1)] [(.int (1 : Int32))])) _
                    exact k)
                obtain ⟨fs, hr, hrun, hended, hW, hsame⟩ := X0.leave (v := some (.int (1 : Int32))) (fun h => by rw [Bd.returns] at h; cases h)
                refine ⟨_, _, pre30 _ (retN X0 hx (t := .boolean) Bd.returns (by simp) (hb hby d1_65) hr), hrun, hended, _, _, rfl, ?_, ⟨_, rfl⟩, hW, hsame.mono (by decide) (by decide)⟩
                show Q1 Z p1 h0 n0 _ s₁.heap _
                rw [e0]
                exact ⟨by simp [fU, hc2, hc4, hc6, hc21, hc23, hc26, hc29], N0, rfl⟩
              · skip
                have pre31 : Goes p e below s₁ (entryFrame m #[(.int p1)] 1) s₁ (mkF m 57 #[.val (.int p1)] [(.int (126 : Int32)), (.int p1)]) := fun t k => pre28 t (by
                    refine XS.icmpNo X0.here hx rfl (hb hby d1_51) rfl (feq hc29).1 ?_
                    show Steps p.tables e below (s₁.setTop (mkF m 54 #[.val (.int p1)] [])) _
                    refine XS.iloadN X0.here hx rfl (hb hby d1_54) rfl ?_
                    show Steps p.tables e below (s₁.setTop (mkF m 55 #[.val (.int p1)] [(.int p1)])) _
                    refine XS.bipush X0.here hx rfl (hb hby d1_55) ?_
                    show Steps p.tables e below (s₁.setTop (mkF m 57 #[.val (.int p1)] [(.int (126 : Int32)), (.int p1)])) _
                    exact k)
                by_cases hc32 : p1 = (126 : Int32)
                · skip
                  have pre33 : Goes p e below s₁ (entryFrame m #[(.int p1)] 1) s₁ (mkF m 65 #[.val (.int p1)] [(.int (1 : Int32))]) := fun t k => pre31 t (by
                      refine XS.icmpNo X0.here hx rfl (hb hby d1_57) rfl (teq hc32).2 ?_
                      show Steps p.tables e below (s₁.setTop (mkF m 60 #[.val (.int p1)] [])) _
                      refine XS.iconst X0.here hx rfl (hb hby d1_60) ?_
                      show Steps p.tables e below (s₁.setTop (mkF m 61 #[.val (.int p1)] [(.int (1 : Int32))])) _
                      refine XS.goto X0.here hx rfl (pc0 := 61) (pc' := 65) rfl (hb hby d1_61) (by decide) (by decide) ?_
                      show Steps p.tables e below (s₁.setTop (mkF m 65 #[.val (.int p1)] [(.int (1 : Int32))])) _
                      exact k)
                  obtain ⟨fs, hr, hrun, hended, hW, hsame⟩ := X0.leave (v := some (.int (1 : Int32))) (fun h => by rw [Bd.returns] at h; cases h)
                  refine ⟨_, _, pre33 _ (retN X0 hx (t := .boolean) Bd.returns (by simp) (hb hby d1_65) hr), hrun, hended, _, _, rfl, ?_, ⟨_, rfl⟩, hW, hsame.mono (by decide) (by decide)⟩
                  show Q1 Z p1 h0 n0 _ s₁.heap _
                  rw [e0]
                  exact ⟨by simp [fU, hc2, hc4, hc6, hc21, hc23, hc26, hc29, hc32], N0, rfl⟩
                · skip
                  have pre34 : Goes p e below s₁ (entryFrame m #[(.int p1)] 1) s₁ (mkF m 65 #[.val (.int p1)] [(.int (0 : Int32))]) := fun t k => pre31 t (by
                      refine XS.icmpYes X0.here hx rfl (pc0 := 57) (pc' := 64) rfl (hb hby d1_57) rfl (feq hc32).2 (by decide) (by decide) ?_
                      show Steps p.tables e below (s₁.setTop (mkF m 64 #[.val (.int p1)] [])) _
                      refine XS.iconst X0.here hx rfl (hb hby d1_64) ?_
                      show Steps p.tables e below (s₁.setTop (mkF m 65 #[.val (.int p1)] [(.int (0 : Int32))])) _
                      exact k)
                  obtain ⟨fs, hr, hrun, hended, hW, hsame⟩ := X0.leave (v := some (.int (0 : Int32))) (fun h => by rw [Bd.returns] at h; cases h)
                  refine ⟨_, _, pre34 _ (retN X0 hx (t := .boolean) Bd.returns (by simp) (hb hby d1_65) hr), hrun, hended, _, _, rfl, ?_, ⟨_, rfl⟩, hW, hsame.mono (by decide) (by decide)⟩
                  show Q1 Z p1 h0 n0 _ s₁.heap _
                  rw [e0]
                  exact ⟨by simp [fU, hc2, hc4, hc6, hc21, hc23, hc26, hc29, hc32], N0, rfl⟩
        · skip
          have pre35 : Goes p e below s₁ (entryFrame m #[(.int p1)] 1) s₁ (mkF m 65 #[.val (.int p1)] [(.int (1 : Int32))]) := fun t k => pre20 t (by
              refine XS.icmpYes X0.here hx rfl (pc0 := 33) (pc' := 60) rfl (hb hby d1_33) rfl (flt hc21).2.2.2 (by decide) (by decide) ?_
              show Steps p.tables e below (s₁.setTop (mkF m 60 #[.val (.int p1)] [])) _
              refine XS.iconst X0.here hx rfl (hb hby d1_60) ?_
              show Steps p.tables e below (s₁.setTop (mkF m 61 #[.val (.int p1)] [(.int (1 : Int32))])) _
              refine XS.goto X0.here hx rfl (pc0 := 61) (pc' := 65) rfl (hb hby d1_61) (by decide) (by decide) ?_
              show Steps p.tables e below (s₁.setTop (mkF m 65 #[.val (.int p1)] [(.int (1 : Int32))])) _
              exact k)
          obtain ⟨fs, hr, hrun, hended, hW, hsame⟩ := X0.leave (v := some (.int (1 : Int32))) (fun h => by rw [Bd.returns] at h; cases h)
          refine ⟨_, _, pre35 _ (retN X0 hx (t := .boolean) Bd.returns (by simp) (hb hby d1_65) hr), hrun, hended, _, _, rfl, ?_, ⟨_, rfl⟩, hW, hsame.mono (by decide) (by decide)⟩
          show Q1 Z p1 h0 n0 _ s₁.heap _
          rw [e0]
          exact ⟨by simp [fU, hc2, hc4, hc6, hc21], N0, rfl⟩
    · skip
      have pre36 : Goes p e below s₁ (entryFrame m #[(.int p1)] 1) s₁ (mkF m 21 #[.val (.int p1)] [(.int (122 : Int32)), (.int p1)]) := fun t k => pre3 t (by
          refine XS.icmpNo X0.here hx rfl (hb hby d1_15) rfl (flt hc4).1 ?_
          show Steps p.tables e below (s₁.setTop (mkF m 18 #[.val (.int p1)] [])) _
          refine XS.iloadN X0.here hx rfl (hb hby d1_18) rfl ?_
          show Steps p.tables e below (s₁.setTop (mkF m 19 #[.val (.int p1)] [(.int p1)])) _
          refine XS.bipush X0.here hx rfl (hb hby d1_19) ?_
          show Steps p.tables e below (s₁.setTop (mkF m 21 #[.val (.int p1)] [(.int (122 : Int32)), (.int p1)])) _
          exact k)
      by_cases hc37 : (122 : Int32) < p1
      · skip
        have pre38 : Goes p e below s₁ (entryFrame m #[(.int p1)] 1) s₁ (mkF m 27 #[.val (.int p1)] [(.int (48 : Int32)), (.int p1)]) := fun t k => pre36 t (by
            refine XS.icmpNo X0.here hx rfl (hb hby d1_21) rfl (tlt hc37).2.2.2 ?_
            show Steps p.tables e below (s₁.setTop (mkF m 24 #[.val (.int p1)] [])) _
            refine XS.iloadN X0.here hx rfl (hb hby d1_24) rfl ?_
            show Steps p.tables e below (s₁.setTop (mkF m 25 #[.val (.int p1)] [(.int p1)])) _
            refine XS.bipush X0.here hx rfl (hb hby d1_25) ?_
            show Steps p.tables e below (s₁.setTop (mkF m 27 #[.val (.int p1)] [(.int (48 : Int32)), (.int p1)])) _
            exact k)
        by_cases hc39 : p1 < (48 : Int32)
        · skip
          have pre40 : Goes p e below s₁ (entryFrame m #[(.int p1)] 1) s₁ (mkF m 39 #[.val (.int p1)] [(.int (45 : Int32)), (.int p1)]) := fun t k => pre38 t (by
              refine XS.icmpYes X0.here hx rfl (pc0 := 27) (pc' := 36) rfl (hb hby d1_27) rfl (tlt hc39).1 (by decide) (by decide) ?_
              show Steps p.tables e below (s₁.setTop (mkF m 36 #[.val (.int p1)] [])) _
              refine XS.iloadN X0.here hx rfl (hb hby d1_36) rfl ?_
              show Steps p.tables e below (s₁.setTop (mkF m 37 #[.val (.int p1)] [(.int p1)])) _
              refine XS.bipush X0.here hx rfl (hb hby d1_37) ?_
              show Steps p.tables e below (s₁.setTop (mkF m 39 #[.val (.int p1)] [(.int (45 : Int32)), (.int p1)])) _
              exact k)
          by_cases hc41 : p1 = (45 : Int32)
          · skip
            have pre42 : Goes p e below s₁ (entryFrame m #[(.int p1)] 1) s₁ (mkF m 65 #[.val (.int p1)] [(.int (1 : Int32))]) := fun t k => pre40 t (by
                refine XS.icmpYes X0.here hx rfl (pc0 := 39) (pc' := 60) rfl (hb hby d1_39) rfl (teq hc41).1 (by decide) (by decide) ?_
                show Steps p.tables e below (s₁.setTop (mkF m 60 #[.val (.int p1)] [])) _
                refine XS.iconst X0.here hx rfl (hb hby d1_60) ?_
                show Steps p.tables e below (s₁.setTop (mkF m 61 #[.val (.int p1)] [(.int (1 : Int32))])) _
                refine XS.goto X0.here hx rfl (pc0 := 61) (pc' := 65) rfl (hb hby d1_61) (by decide) (by decide) ?_
                show Steps p.tables e below (s₁.setTop (mkF m 65 #[.val (.int p1)] [(.int (1 : Int32))])) _
                exact k)
            obtain ⟨fs, hr, hrun, hended, hW, hsame⟩ := X0.leave (v := some (.int (1 : Int32))) (fun h => by rw [Bd.returns] at h; cases h)
            refine ⟨_, _, pre42 _ (retN X0 hx (t := .boolean) Bd.returns (by simp) (hb hby d1_65) hr), hrun, hended, _, _, rfl, ?_, ⟨_, rfl⟩, hW, hsame.mono (by decide) (by decide)⟩
            show Q1 Z p1 h0 n0 _ s₁.heap _
            rw [e0]
            exact ⟨by simp [fU, hc2, hc4, hc37, hc39, hc41], N0, rfl⟩
          · skip
            have pre43 : Goes p e below s₁ (entryFrame m #[(.int p1)] 1) s₁ (mkF m 45 #[.val (.int p1)] [(.int (46 : Int32)), (.int p1)]) := fun t k => pre40 t (by
                refine XS.icmpNo X0.here hx rfl (hb hby d1_39) rfl (feq hc41).1 ?_
                show Steps p.tables e below (s₁.setTop (mkF m 42 #[.val (.int p1)] [])) _
                refine XS.iloadN X0.here hx rfl (hb hby d1_42) rfl ?_
                show Steps p.tables e below (s₁.setTop (mkF m 43 #[.val (.int p1)] [(.int p1)])) _
                refine XS.bipush X0.here hx rfl (hb hby d1_43) ?_
                show Steps p.tables e below (s₁.setTop (mkF m 45 #[.val (.int p1)] [(.int (46 : Int32)), (.int p1)])) _
                exact k)
            by_cases hc44 : p1 = (46 : Int32)
            · skip
              have pre45 : Goes p e below s₁ (entryFrame m #[(.int p1)] 1) s₁ (mkF m 65 #[.val (.int p1)] [(.int (1 : Int32))]) := fun t k => pre43 t (by
                  refine XS.icmpYes X0.here hx rfl (pc0 := 45) (pc' := 60) rfl (hb hby d1_45) rfl (teq hc44).1 (by decide) (by decide) ?_
                  show Steps p.tables e below (s₁.setTop (mkF m 60 #[.val (.int p1)] [])) _
                  refine XS.iconst X0.here hx rfl (hb hby d1_60) ?_
                  show Steps p.tables e below (s₁.setTop (mkF m 61 #[.val (.int p1)] [(.int (1 : Int32))])) _
                  refine XS.goto X0.here hx rfl (pc0 := 61) (pc' := 65) rfl (hb hby d1_61) (by decide) (by decide) ?_
                  show Steps p.tables e below (s₁.setTop (mkF m 65 #[.val (.int p1)] [(.int (1 : Int32))])) _
                  exact k)
              obtain ⟨fs, hr, hrun, hended, hW, hsame⟩ := X0.leave (v := some (.int (1 : Int32))) (fun h => by rw [Bd.returns] at h; cases h)
              refine ⟨_, _, pre45 _ (retN X0 hx (t := .boolean) Bd.returns (by simp) (hb hby d1_65) hr), hrun, hended, _, _, rfl, ?_, ⟨_, rfl⟩, hW, hsame.mono (by decide) (by decide)⟩
              show Q1 Z p1 h0 n0 _ s₁.heap _
              rw [e0]
              exact ⟨by simp [fU, hc2, hc4, hc37, hc39, hc41, hc44], N0, rfl⟩
            · skip
              have pre46 : Goes p e below s₁ (entryFrame m #[(.int p1)] 1) s₁ (mkF m 51 #[.val (.int p1)] [(.int (95 : Int32)), (.int p1)]) := fun t k => pre43 t (by
                  refine XS.icmpNo X0.here hx rfl (hb hby d1_45) rfl (feq hc44).1 ?_
                  show Steps p.tables e below (s₁.setTop (mkF m 48 #[.val (.int p1)] [])) _
                  refine XS.iloadN X0.here hx rfl (hb hby d1_48) rfl ?_
                  show Steps p.tables e below (s₁.setTop (mkF m 49 #[.val (.int p1)] [(.int p1)])) _
                  refine XS.bipush X0.here hx rfl (hb hby d1_49) ?_
                  show Steps p.tables e below (s₁.setTop (mkF m 51 #[.val (.int p1)] [(.int (95 : Int32)), (.int p1)])) _
                  exact k)
              by_cases hc47 : p1 = (95 : Int32)
              · skip
                have pre48 : Goes p e below s₁ (entryFrame m #[(.int p1)] 1) s₁ (mkF m 65 #[.val (.int p1)] [(.int (1 : Int32))]) := fun t k => pre46 t (by
                    refine XS.icmpYes X0.here hx rfl (pc0 := 51) (pc' := 60) rfl (hb hby d1_51) rfl (teq hc47).1 (by decide) (by decide) ?_
                    show Steps p.tables e below (s₁.setTop (mkF m 60 #[.val (.int p1)] [])) _
                    refine XS.iconst X0.here hx rfl (hb hby d1_60) ?_
                    show Steps p.tables e below (s₁.setTop (mkF m 61 #[.val (.int p1)] [(.int (1 : Int32))])) _
                    refine XS.goto X0.here hx rfl (pc0 := 61) (pc' := 65) rfl (hb hby d1_61) (by decide) (by decide) ?_
                    show Steps p.tables e below (s₁.setTop (mkF m 65 #[.val (.int p1)] [(.int (1 : Int32))])) _
                    exact k)
                obtain ⟨fs, hr, hrun, hended, hW, hsame⟩ := X0.leave (v := some (.int (1 : Int32))) (fun h => by rw [Bd.returns] at h; cases h)
                refine ⟨_, _, pre48 _ (retN X0 hx (t := .boolean) Bd.returns (by simp) (hb hby d1_65) hr), hrun, hended, _, _, rfl, ?_, ⟨_, rfl⟩, hW, hsame.mono (by decide) (by decide)⟩
                show Q1 Z p1 h0 n0 _ s₁.heap _
                rw [e0]
                exact ⟨by simp [fU, hc2, hc4, hc37, hc39, hc41, hc44, hc47], N0, rfl⟩
              · skip
                have pre49 : Goes p e below s₁ (entryFrame m #[(.int p1)] 1) s₁ (mkF m 57 #[.val (.int p1)] [(.int (126 : Int32)), (.int p1)]) := fun t k => pre46 t (by
                    refine XS.icmpNo X0.here hx rfl (hb hby d1_51) rfl (feq hc47).1 ?_
                    show Steps p.tables e below (s₁.setTop (mkF m 54 #[.val (.int p1)] [])) _
                    refine XS.iloadN X0.here hx rfl (hb hby d1_54) rfl ?_
                    show Steps p.tables e below (s₁.setTop (mkF m 55 #[.val (.int p1)] [(.int p1)])) _
                    refine XS.bipush X0.here hx rfl (hb hby d1_55) ?_
                    show Steps p.tables e below (s₁.setTop (mkF m 57 #[.val (.int p1)] [(.int (126 : Int32)), (.int p1)])) _
                    exact k)
                by_cases hc50 : p1 = (126 : Int32)
                · skip
                  have pre51 : Goes p e below s₁ (entryFrame m #[(.int p1)] 1) s₁ (mkF m 65 #[.val (.int p1)] [(.int (1 : Int32))]) := fun t k => pre49 t (by
                      refine XS.icmpNo X0.here hx rfl (hb hby d1_57) rfl (teq hc50).2 ?_
                      show Steps p.tables e below (s₁.setTop (mkF m 60 #[.val (.int p1)] [])) _
                      refine XS.iconst X0.here hx rfl (hb hby d1_60) ?_
                      show Steps p.tables e below (s₁.setTop (mkF m 61 #[.val (.int p1)] [(.int (1 : Int32))])) _
                      refine XS.goto X0.here hx rfl (pc0 := 61) (pc' := 65) rfl (hb hby d1_61) (by decide) (by decide) ?_
                      show Steps p.tables e below (s₁.setTop (mkF m 65 #[.val (.int p1)] [(.int (1 : Int32))])) _
                      exact k)
                  obtain ⟨fs, hr, hrun, hended, hW, hsame⟩ := X0.leave (v := some (.int (1 : Int32))) (fun h => by rw [Bd.returns] at h; cases h)
                  refine ⟨_, _, pre51 _ (retN X0 hx (t := .boolean) Bd.returns (by simp) (hb hby d1_65) hr), hrun, hended, _, _, rfl, ?_, ⟨_, rfl⟩, hW, hsame.mono (by decide) (by decide)⟩
                  show Q1 Z p1 h0 n0 _ s₁.heap _
                  rw [e0]
                  exact ⟨by simp [fU, hc2, hc4, hc37, hc39, hc41, hc44, hc47, hc50], N0, rfl⟩
                · skip
                  have pre52 : Goes p e below s₁ (entryFrame m #[(.int p1)] 1) s₁ (mkF m 65 #[.val (.int p1)] [(.int (0 : Int32))]) := fun t k => pre49 t (by
                      refine XS.icmpYes X0.here hx rfl (pc0 := 57) (pc' := 64) rfl (hb hby d1_57) rfl (feq hc50).2 (by decide) (by decide) ?_
                      show Steps p.tables e below (s₁.setTop (mkF m 64 #[.val (.int p1)] [])) _
                      refine XS.iconst X0.here hx rfl (hb hby d1_64) ?_
                      show Steps p.tables e below (s₁.setTop (mkF m 65 #[.val (.int p1)] [(.int (0 : Int32))])) _
                      exact k)
                  obtain ⟨fs, hr, hrun, hended, hW, hsame⟩ := X0.leave (v := some (.int (0 : Int32))) (fun h => by rw [Bd.returns] at h; cases h)
                  refine ⟨_, _, pre52 _ (retN X0 hx (t := .boolean) Bd.returns (by simp) (hb hby d1_65) hr), hrun, hended, _, _, rfl, ?_, ⟨_, rfl⟩, hW, hsame.mono (by decide) (by decide)⟩
                  show Q1 Z p1 h0 n0 _ s₁.heap _
                  rw [e0]
                  exact ⟨by simp [fU, hc2, hc4, hc37, hc39, hc41, hc44, hc47, hc50], N0, rfl⟩
        · skip
          have pre53 : Goes p e below s₁ (entryFrame m #[(.int p1)] 1) s₁ (mkF m 33 #[.val (.int p1)] [(.int (57 : Int32)), (.int p1)]) := fun t k => pre38 t (by
              refine XS.icmpNo X0.here hx rfl (hb hby d1_27) rfl (flt hc39).1 ?_
              show Steps p.tables e below (s₁.setTop (mkF m 30 #[.val (.int p1)] [])) _
              refine XS.iloadN X0.here hx rfl (hb hby d1_30) rfl ?_
              show Steps p.tables e below (s₁.setTop (mkF m 31 #[.val (.int p1)] [(.int p1)])) _
              refine XS.bipush X0.here hx rfl (hb hby d1_31) ?_
              show Steps p.tables e below (s₁.setTop (mkF m 33 #[.val (.int p1)] [(.int (57 : Int32)), (.int p1)])) _
              exact k)
          by_cases hc54 : (57 : Int32) < p1
          · skip
            have pre55 : Goes p e below s₁ (entryFrame m #[(.int p1)] 1) s₁ (mkF m 39 #[.val (.int p1)] [(.int (45 : Int32)), (.int p1)]) := fun t k => pre53 t (by
                refine XS.icmpNo X0.here hx rfl (hb hby d1_33) rfl (tlt hc54).2.2.2 ?_
                show Steps p.tables e below (s₁.setTop (mkF m 36 #[.val (.int p1)] [])) _
                refine XS.iloadN X0.here hx rfl (hb hby d1_36) rfl ?_
                show Steps p.tables e below (s₁.setTop (mkF m 37 #[.val (.int p1)] [(.int p1)])) _
                refine XS.bipush X0.here hx rfl (hb hby d1_37) ?_
                show Steps p.tables e below (s₁.setTop (mkF m 39 #[.val (.int p1)] [(.int (45 : Int32)), (.int p1)])) _
                exact k)
            by_cases hc56 : p1 = (45 : Int32)
            · skip
              have pre57 : Goes p e below s₁ (entryFrame m #[(.int p1)] 1) s₁ (mkF m 65 #[.val (.int p1)] [(.int (1 : Int32))]) := fun t k => pre55 t (by
                  refine XS.icmpYes X0.here hx rfl (pc0 := 39) (pc' := 60) rfl (hb hby d1_39) rfl (teq hc56).1 (by decide) (by decide) ?_
                  show Steps p.tables e below (s₁.setTop (mkF m 60 #[.val (.int p1)] [])) _
                  refine XS.iconst X0.here hx rfl (hb hby d1_60) ?_
                  show Steps p.tables e below (s₁.setTop (mkF m 61 #[.val (.int p1)] [(.int (1 : Int32))])) _
                  refine XS.goto X0.here hx rfl (pc0 := 61) (pc' := 65) rfl (hb hby d1_61) (by decide) (by decide) ?_
                  show Steps p.tables e below (s₁.setTop (mkF m 65 #[.val (.int p1)] [(.int (1 : Int32))])) _
                  exact k)
              obtain ⟨fs, hr, hrun, hended, hW, hsame⟩ := X0.leave (v := some (.int (1 : Int32))) (fun h => by rw [Bd.returns] at h; cases h)
              refine ⟨_, _, pre57 _ (retN X0 hx (t := .boolean) Bd.returns (by simp) (hb hby d1_65) hr), hrun, hended, _, _, rfl, ?_, ⟨_, rfl⟩, hW, hsame.mono (by decide) (by decide)⟩
              show Q1 Z p1 h0 n0 _ s₁.heap _
              rw [e0]
              exact ⟨by simp [fU, hc2, hc4, hc37, hc39, hc54, hc56], N0, rfl⟩
            · skip
              have pre58 : Goes p e below s₁ (entryFrame m #[(.int p1)] 1) s₁ (mkF m 45 #[.val (.int p1)] [(.int (46 : Int32)), (.int p1)]) := fun t k => pre55 t (by
                  refine XS.icmpNo X0.here hx rfl (hb hby d1_39) rfl (feq hc56).1 ?_
                  show Steps p.tables e below (s₁.setTop (mkF m 42 #[.val (.int p1)] [])) _
                  refine XS.iloadN X0.here hx rfl (hb hby d1_42) rfl ?_
                  show Steps p.tables e below (s₁.setTop (mkF m 43 #[.val (.int p1)] [(.int p1)])) _
                  refine XS.bipush X0.here hx rfl (hb hby d1_43) ?_
                  show Steps p.tables e below (s₁.setTop (mkF m 45 #[.val (.int p1)] [(.int (46 : Int32)), (.int p1)])) _
                  exact k)
              by_cases hc59 : p1 = (46 : Int32)
              · skip
                have pre60 : Goes p e below s₁ (entryFrame m #[(.int p1)] 1) s₁ (mkF m 65 #[.val (.int p1)] [(.int (1 : Int32))]) := fun t k => pre58 t (by
                    refine XS.icmpYes X0.here hx rfl (pc0 := 45) (pc' := 60) rfl (hb hby d1_45) rfl (teq hc59).1 (by decide) (by decide) ?_
                    show Steps p.tables e below (s₁.setTop (mkF m 60 #[.val (.int p1)] [])) _
                    refine XS.iconst X0.here hx rfl (hb hby d1_60) ?_
                    show Steps p.tables e below (s₁.setTop (mkF m 61 #[.val (.int p1)] [(.int (1 : Int32))])) _
                    refine XS.goto X0.here hx rfl (pc0 := 61) (pc' := 65) rfl (hb hby d1_61) (by decide) (by decide) ?_
                    show Steps p.tables e below (s₁.setTop (mkF m 65 #[.val (.int p1)] [(.int (1 : Int32))])) _
                    exact k)
                obtain ⟨fs, hr, hrun, hended, hW, hsame⟩ := X0.leave (v := some (.int (1 : Int32))) (fun h => by rw [Bd.returns] at h; cases h)
                refine ⟨_, _, pre60 _ (retN X0 hx (t := .boolean) Bd.returns (by simp) (hb hby d1_65) hr), hrun, hended, _, _, rfl, ?_, ⟨_, rfl⟩, hW, hsame.mono (by decide) (by decide)⟩
                show Q1 Z p1 h0 n0 _ s₁.heap _
                rw [e0]
                exact ⟨by simp [fU, hc2, hc4, hc37, hc39, hc54, hc56, hc59], N0, rfl⟩
              · skip
                have pre61 : Goes p e below s₁ (entryFrame m #[(.int p1)] 1) s₁ (mkF m 51 #[.val (.int p1)] [(.int (95 : Int32)), (.int p1)]) := fun t k => pre58 t (by
                    refine XS.icmpNo X0.here hx rfl (hb hby d1_45) rfl (feq hc59).1 ?_
                    show Steps p.tables e below (s₁.setTop (mkF m 48 #[.val (.int p1)] [])) _
                    refine XS.iloadN X0.here hx rfl (hb hby d1_48) rfl ?_
                    show Steps p.tables e below (s₁.setTop (mkF m 49 #[.val (.int p1)] [(.int p1)])) _
                    refine XS.bipush X0.here hx rfl (hb hby d1_49) ?_
                    show Steps p.tables e below (s₁.setTop (mkF m 51 #[.val (.int p1)] [(.int (95 : Int32)), (.int p1)])) _
                    exact k)
                by_cases hc62 : p1 = (95 : Int32)
                · skip
                  have pre63 : Goes p e below s₁ (entryFrame m #[(.int p1)] 1) s₁ (mkF m 65 #[.val (.int p1)] [(.int (1 : Int32))]) := fun t k => pre61 t (by
                      refine XS.icmpYes X0.here hx rfl (pc0 := 51) (pc' := 60) rfl (hb hby d1_51) rfl (teq hc62).1 (by decide) (by decide) ?_
                      show Steps p.tables e below (s₁.setTop (mkF m 60 #[.val (.int p1)] [])) _
                      refine XS.iconst X0.here hx rfl (hb hby d1_60) ?_
                      show Steps p.tables e below (s₁.setTop (mkF m 61 #[.val (.int p1)] [(.int (1 : Int32))])) _
                      refine XS.goto X0.here hx rfl (pc0 := 61) (pc' := 65) rfl (hb hby d1_61) (by decide) (by decide) ?_
                      show Steps p.tables e below (s₁.setTop (mkF m 65 #[.val (.int p1)] [(.int (1 : Int32))])) _
                      exact k)
                  obtain ⟨fs, hr, hrun, hended, hW, hsame⟩ := X0.leave (v := some (.int (1 : Int32))) (fun h => by rw [Bd.returns] at h; cases h)
                  refine ⟨_, _, pre63 _ (retN X0 hx (t := .boolean) Bd.returns (by simp) (hb hby d1_65) hr), hrun, hended, _, _, rfl, ?_, ⟨_, rfl⟩, hW, hsame.mono (by decide) (by decide)⟩
                  show Q1 Z p1 h0 n0 _ s₁.heap _
                  rw [e0]
                  exact ⟨by simp [fU, hc2, hc4, hc37, hc39, hc54, hc56, hc59, hc62], N0, rfl⟩
                · skip
                  have pre64 : Goes p e below s₁ (entryFrame m #[(.int p1)] 1) s₁ (mkF m 57 #[.val (.int p1)] [(.int (126 : Int32)), (.int p1)]) := fun t k => pre61 t (by
                      refine XS.icmpNo X0.here hx rfl (hb hby d1_51) rfl (feq hc62).1 ?_
                      show Steps p.tables e below (s₁.setTop (mkF m 54 #[.val (.int p1)] [])) _
                      refine XS.iloadN X0.here hx rfl (hb hby d1_54) rfl ?_
                      show Steps p.tables e below (s₁.setTop (mkF m 55 #[.val (.int p1)] [(.int p1)])) _
                      refine XS.bipush X0.here hx rfl (hb hby d1_55) ?_
                      show Steps p.tables e below (s₁.setTop (mkF m 57 #[.val (.int p1)] [(.int (126 : Int32)), (.int p1)])) _
                      exact k)
                  by_cases hc65 : p1 = (126 : Int32)
                  · skip
                    have pre66 : Goes p e below s₁ (entryFrame m #[(.int p1)] 1) s₁ (mkF m 65 #[.val (.int p1)] [(.int (1 : Int32))]) := fun t k => pre64 t (by
                        refine XS.icmpNo X0.here hx rfl (hb hby d1_57) rfl (teq hc65).2 ?_
                        show Steps p.tables e below (s₁.setTop (mkF m 60 #[.val (.int p1)] [])) _
                        refine XS.iconst X0.here hx rfl (hb hby d1_60) ?_
                        show Steps p.tables e below (s₁.setTop (mkF m 61 #[.val (.int p1)] [(.int (1 : Int32))])) _
                        refine XS.goto X0.here hx rfl (pc0 := 61) (pc' := 65) rfl (hb hby d1_61) (by decide) (by decide) ?_
                        show Steps p.tables e below (s₁.setTop (mkF m 65 #[.val (.int p1)] [(.int (1 : Int32))])) _
                        exact k)
                    obtain ⟨fs, hr, hrun, hended, hW, hsame⟩ := X0.leave (v := some (.int (1 : Int32))) (fun h => by rw [Bd.returns] at h; cases h)
                    refine ⟨_, _, pre66 _ (retN X0 hx (t := .boolean) Bd.returns (by simp) (hb hby d1_65) hr), hrun, hended, _, _, rfl, ?_, ⟨_, rfl⟩, hW, hsame.mono (by decide) (by decide)⟩
                    show Q1 Z p1 h0 n0 _ s₁.heap _
                    rw [e0]
                    exact ⟨by simp [fU, hc2, hc4, hc37, hc39, hc54, hc56, hc59, hc62, hc65], N0, rfl⟩
                  · skip
                    have pre67 : Goes p e below s₁ (entryFrame m #[(.int p1)] 1) s₁ (mkF m 65 #[.val (.int p1)] [(.int (0 : Int32))]) := fun t k => pre64 t (by
                        refine XS.icmpYes X0.here hx rfl (pc0 := 57) (pc' := 64) rfl (hb hby d1_57) rfl (feq hc65).2 (by decide) (by decide) ?_
                        show Steps p.tables e below (s₁.setTop (mkF m 64 #[.val (.int p1)] [])) _
                        refine XS.iconst X0.here hx rfl (hb hby d1_64) ?_
                        show Steps p.tables e below (s₁.setTop (mkF m 65 #[.val (.int p1)] [(.int (0 : Int32))])) _
                        exact k)
                    obtain ⟨fs, hr, hrun, hended, hW, hsame⟩ := X0.leave (v := some (.int (0 : Int32))) (fun h => by rw [Bd.returns] at h; cases h)
                    refine ⟨_, _, pre67 _ (retN X0 hx (t := .boolean) Bd.returns (by simp) (hb hby d1_65) hr), hrun, hended, _, _, rfl, ?_, ⟨_, rfl⟩, hW, hsame.mono (by decide) (by decide)⟩
                    show Q1 Z p1 h0 n0 _ s₁.heap _
                    rw [e0]
                    exact ⟨by simp [fU, hc2, hc4, hc37, hc39, hc54, hc56, hc59, hc62, hc65], N0, rfl⟩
          · skip
            have pre68 : Goes p e below s₁ (entryFrame m #[(.int p1)] 1) s₁ (mkF m 65 #[.val (.int p1)] [(.int (1 : Int32))]) := fun t k => pre53 t (by
                refine XS.icmpYes X0.here hx rfl (pc0 := 33) (pc' := 60) rfl (hb hby d1_33) rfl (flt hc54).2.2.2 (by decide) (by decide) ?_
                show Steps p.tables e below (s₁.setTop (mkF m 60 #[.val (.int p1)] [])) _
                refine XS.iconst X0.here hx rfl (hb hby d1_60) ?_
                show Steps p.tables e below (s₁.setTop (mkF m 61 #[.val (.int p1)] [(.int (1 : Int32))])) _
                refine XS.goto X0.here hx rfl (pc0 := 61) (pc' := 65) rfl (hb hby d1_61) (by decide) (by decide) ?_
                show Steps p.tables e below (s₁.setTop (mkF m 65 #[.val (.int p1)] [(.int (1 : Int32))])) _
                exact k)
            obtain ⟨fs, hr, hrun, hended, hW, hsame⟩ := X0.leave (v := some (.int (1 : Int32))) (fun h => by rw [Bd.returns] at h; cases h)
            refine ⟨_, _, pre68 _ (retN X0 hx (t := .boolean) Bd.returns (by simp) (hb hby d1_65) hr), hrun, hended, _, _, rfl, ?_, ⟨_, rfl⟩, hW, hsame.mono (by decide) (by decide)⟩
            show Q1 Z p1 h0 n0 _ s₁.heap _
            rw [e0]
            exact ⟨by simp [fU, hc2, hc4, hc37, hc39, hc54], N0, rfl⟩
      · skip
        have pre69 : Goes p e below s₁ (entryFrame m #[(.int p1)] 1) s₁ (mkF m 65 #[.val (.int p1)] [(.int (1 : Int32))]) := fun t k => pre36 t (by
            refine XS.icmpYes X0.here hx rfl (pc0 := 21) (pc' := 60) rfl (hb hby d1_21) rfl (flt hc37).2.2.2 (by decide) (by decide) ?_
            show Steps p.tables e below (s₁.setTop (mkF m 60 #[.val (.int p1)] [])) _
            refine XS.iconst X0.here hx rfl (hb hby d1_60) ?_
            show Steps p.tables e below (s₁.setTop (mkF m 61 #[.val (.int p1)] [(.int (1 : Int32))])) _
            refine XS.goto X0.here hx rfl (pc0 := 61) (pc' := 65) rfl (hb hby d1_61) (by decide) (by decide) ?_
            show Steps p.tables e below (s₁.setTop (mkF m 65 #[.val (.int p1)] [(.int (1 : Int32))])) _
            exact k)
        obtain ⟨fs, hr, hrun, hended, hW, hsame⟩ := X0.leave (v := some (.int (1 : Int32))) (fun h => by rw [Bd.returns] at h; cases h)
        refine ⟨_, _, pre69 _ (retN X0 hx (t := .boolean) Bd.returns (by simp) (hb hby d1_65) hr), hrun, hended, _, _, rfl, ?_, ⟨_, rfl⟩, hW, hsame.mono (by decide) (by decide)⟩
        show Q1 Z p1 h0 n0 _ s₁.heap _
        rw [e0]
        exact ⟨by simp [fU, hc2, hc4, hc37], N0, rfl⟩
  · skip
    have pre70 : Goes p e below s₁ (entryFrame m #[(.int p1)] 1) s₁ (mkF m 9 #[.val (.int p1)] [(.int (90 : Int32)), (.int p1)]) := fun t k => pre1 t (by
        refine XS.icmpNo X0.here hx rfl (hb hby d1_3) rfl (flt hc2).1 ?_
        show Steps p.tables e below (s₁.setTop (mkF m 6 #[.val (.int p1)] [])) _
        refine XS.iloadN X0.here hx rfl (hb hby d1_6) rfl ?_
        show Steps p.tables e below (s₁.setTop (mkF m 7 #[.val (.int p1)] [(.int p1)])) _
        refine XS.bipush X0.here hx rfl (hb hby d1_7) ?_
        show Steps p.tables e below (s₁.setTop (mkF m 9 #[.val (.int p1)] [(.int (90 : Int32)), (.int p1)])) _
        exact k)
    by_cases hc71 : (90 : Int32) < p1
    · skip
      have pre72 : Goes p e below s₁ (entryFrame m #[(.int p1)] 1) s₁ (mkF m 15 #[.val (.int p1)] [(.int (97 : Int32)), (.int p1)]) := fun t k => pre70 t (by
          refine XS.icmpNo X0.here hx rfl (hb hby d1_9) rfl (tlt hc71).2.2.2 ?_
          show Steps p.tables e below (s₁.setTop (mkF m 12 #[.val (.int p1)] [])) _
          refine XS.iloadN X0.here hx rfl (hb hby d1_12) rfl ?_
          show Steps p.tables e below (s₁.setTop (mkF m 13 #[.val (.int p1)] [(.int p1)])) _
          refine XS.bipush X0.here hx rfl (hb hby d1_13) ?_
          show Steps p.tables e below (s₁.setTop (mkF m 15 #[.val (.int p1)] [(.int (97 : Int32)), (.int p1)])) _
          exact k)
      by_cases hc73 : p1 < (97 : Int32)
      · skip
        have pre74 : Goes p e below s₁ (entryFrame m #[(.int p1)] 1) s₁ (mkF m 27 #[.val (.int p1)] [(.int (48 : Int32)), (.int p1)]) := fun t k => pre72 t (by
            refine XS.icmpYes X0.here hx rfl (pc0 := 15) (pc' := 24) rfl (hb hby d1_15) rfl (tlt hc73).1 (by decide) (by decide) ?_
            show Steps p.tables e below (s₁.setTop (mkF m 24 #[.val (.int p1)] [])) _
            refine XS.iloadN X0.here hx rfl (hb hby d1_24) rfl ?_
            show Steps p.tables e below (s₁.setTop (mkF m 25 #[.val (.int p1)] [(.int p1)])) _
            refine XS.bipush X0.here hx rfl (hb hby d1_25) ?_
            show Steps p.tables e below (s₁.setTop (mkF m 27 #[.val (.int p1)] [(.int (48 : Int32)), (.int p1)])) _
            exact k)
        by_cases hc75 : p1 < (48 : Int32)
        · skip
          have pre76 : Goes p e below s₁ (entryFrame m #[(.int p1)] 1) s₁ (mkF m 39 #[.val (.int p1)] [(.int (45 : Int32)), (.int p1)]) := fun t k => pre74 t (by
              refine XS.icmpYes X0.here hx rfl (pc0 := 27) (pc' := 36) rfl (hb hby d1_27) rfl (tlt hc75).1 (by decide) (by decide) ?_
              show Steps p.tables e below (s₁.setTop (mkF m 36 #[.val (.int p1)] [])) _
              refine XS.iloadN X0.here hx rfl (hb hby d1_36) rfl ?_
              show Steps p.tables e below (s₁.setTop (mkF m 37 #[.val (.int p1)] [(.int p1)])) _
              refine XS.bipush X0.here hx rfl (hb hby d1_37) ?_
              show Steps p.tables e below (s₁.setTop (mkF m 39 #[.val (.int p1)] [(.int (45 : Int32)), (.int p1)])) _
              exact k)
          by_cases hc77 : p1 = (45 : Int32)
          · skip
            have pre78 : Goes p e below s₁ (entryFrame m #[(.int p1)] 1) s₁ (mkF m 65 #[.val (.int p1)] [(.int (1 : Int32))]) := fun t k => pre76 t (by
                refine XS.icmpYes X0.here hx rfl (pc0 := 39) (pc' := 60) rfl (hb hby d1_39) rfl (teq hc77).1 (by decide) (by decide) ?_
                show Steps p.tables e below (s₁.setTop (mkF m 60 #[.val (.int p1)] [])) _
                refine XS.iconst X0.here hx rfl (hb hby d1_60) ?_
                show Steps p.tables e below (s₁.setTop (mkF m 61 #[.val (.int p1)] [(.int (1 : Int32))])) _
                refine XS.goto X0.here hx rfl (pc0 := 61) (pc' := 65) rfl (hb hby d1_61) (by decide) (by decide) ?_
                show Steps p.tables e below (s₁.setTop (mkF m 65 #[.val (.int p1)] [(.int (1 : Int32))])) _
                exact k)
            obtain ⟨fs, hr, hrun, hended, hW, hsame⟩ := X0.leave (v := some (.int (1 : Int32))) (fun h => by rw [Bd.returns] at h; cases h)
            refine ⟨_, _, pre78 _ (retN X0 hx (t := .boolean) Bd.returns (by simp) (hb hby d1_65) hr), hrun, hended, _, _, rfl, ?_, ⟨_, rfl⟩, hW, hsame.mono (by decide) (by decide)⟩
            show Q1 Z p1 h0 n0 _ s₁.heap _
            rw [e0]
            exact ⟨by simp [fU, hc2, hc71, hc73, hc75, hc77], N0, rfl⟩
          · skip
            have pre79 : Goes p e below s₁ (entryFrame m #[(.int p1)] 1) s₁ (mkF m 45 #[.val (.int p1)] [(.int (46 : Int32)), (.int p1)]) := fun t k => pre76 t (by
                refine XS.icmpNo X0.here hx rfl (hb hby d1_39) rfl (feq hc77).1 ?_
                show Steps p.tables e below (s₁.setTop (mkF m 42 #[.val (.int p1)] [])) _
                refine XS.iloadN X0.here hx rfl (hb hby d1_42) rfl ?_
                show Steps p.tables e below (s₁.setTop (mkF m 43 #[.val (.int p1)] [(.int p1)])) _
                refine XS.bipush X0.here hx rfl (hb hby d1_43) ?_
                show Steps p.tables e below (s₁.setTop (mkF m 45 #[.val (.int p1)] [(.int (46 : Int32)), (.int p1)])) _
                exact k)
            by_cases hc80 : p1 = (46 : Int32)
            · skip
              have pre81 : Goes p e below s₁ (entryFrame m #[(.int p1)] 1) s₁ (mkF m 65 #[.val (.int p1)] [(.int (1 : Int32))]) := fun t k => pre79 t (by
                  refine XS.icmpYes X0.here hx rfl (pc0 := 45) (pc' := 60) rfl (hb hby d1_45) rfl (teq hc80).1 (by decide) (by decide) ?_
                  show Steps p.tables e below (s₁.setTop (mkF m 60 #[.val (.int p1)] [])) _
                  refine XS.iconst X0.here hx rfl (hb hby d1_60) ?_
                  show Steps p.tables e below (s₁.setTop (mkF m 61 #[.val (.int p1)] [(.int (1 : Int32))])) _
                  refine XS.goto X0.here hx rfl (pc0 := 61) (pc' := 65) rfl (hb hby d1_61) (by decide) (by decide) ?_
                  show Steps p.tables e below (s₁.setTop (mkF m 65 #[.val (.int p1)] [(.int (1 : Int32))])) _
                  exact k)
              obtain ⟨fs, hr, hrun, hended, hW, hsame⟩ := X0.leave (v := some (.int (1 : Int32))) (fun h => by rw [Bd.returns] at h; cases h)
              refine ⟨_, _, pre81 _ (retN X0 hx (t := .boolean) Bd.returns (by simp) (hb hby d1_65) hr), hrun, hended, _, _, rfl, ?_, ⟨_, rfl⟩, hW, hsame.mono (by decide) (by decide)⟩
              show Q1 Z p1 h0 n0 _ s₁.heap _
              rw [e0]
              exact ⟨by simp [fU, hc2, hc71, hc73, hc75, hc77, hc80], N0, rfl⟩
            · skip
              have pre82 : Goes p e below s₁ (entryFrame m #[(.int p1)] 1) s₁ (mkF m 51 #[.val (.int p1)] [(.int (95 : Int32)), (.int p1)]) := fun t k => pre79 t (by
                  refine XS.icmpNo X0.here hx rfl (hb hby d1_45) rfl (feq hc80).1 ?_
                  show Steps p.tables e below (s₁.setTop (mkF m 48 #[.val (.int p1)] [])) _
                  refine XS.iloadN X0.here hx rfl (hb hby d1_48) rfl ?_
                  show Steps p.tables e below (s₁.setTop (mkF m 49 #[.val (.int p1)] [(.int p1)])) _
                  refine XS.bipush X0.here hx rfl (hb hby d1_49) ?_
                  show Steps p.tables e below (s₁.setTop (mkF m 51 #[.val (.int p1)] [(.int (95 : Int32)), (.int p1)])) _
                  exact k)
              by_cases hc83 : p1 = (95 : Int32)
              · skip
                have pre84 : Goes p e below s₁ (entryFrame m #[(.int p1)] 1) s₁ (mkF m 65 #[.val (.int p1)] [(.int (1 : Int32))]) := fun t k => pre82 t (by
                    refine XS.icmpYes X0.here hx rfl (pc0 := 51) (pc' := 60) rfl (hb hby d1_51) rfl (teq hc83).1 (by decide) (by decide) ?_
                    show Steps p.tables e below (s₁.setTop (mkF m 60 #[.val (.int p1)] [])) _
                    refine XS.iconst X0.here hx rfl (hb hby d1_60) ?_
                    show Steps p.tables e below (s₁.setTop (mkF m 61 #[.val (.int p1)] [(.int (1 : Int32))])) _
                    refine XS.goto X0.here hx rfl (pc0 := 61) (pc' := 65) rfl (hb hby d1_61) (by decide) (by decide) ?_
                    show Steps p.tables e below (s₁.setTop (mkF m 65 #[.val (.int p1)] [(.int (1 : Int32))])) _
                    exact k)
                obtain ⟨fs, hr, hrun, hended, hW, hsame⟩ := X0.leave (v := some (.int (1 : Int32))) (fun h => by rw [Bd.returns] at h; cases h)
                refine ⟨_, _, pre84 _ (retN X0 hx (t := .boolean) Bd.returns (by simp) (hb hby d1_65) hr), hrun, hended, _, _, rfl, ?_, ⟨_, rfl⟩, hW, hsame.mono (by decide) (by decide)⟩
                show Q1 Z p1 h0 n0 _ s₁.heap _
                rw [e0]
                exact ⟨by simp [fU, hc2, hc71, hc73, hc75, hc77, hc80, hc83], N0, rfl⟩
              · skip
                have pre85 : Goes p e below s₁ (entryFrame m #[(.int p1)] 1) s₁ (mkF m 57 #[.val (.int p1)] [(.int (126 : Int32)), (.int p1)]) := fun t k => pre82 t (by
                    refine XS.icmpNo X0.here hx rfl (hb hby d1_51) rfl (feq hc83).1 ?_
                    show Steps p.tables e below (s₁.setTop (mkF m 54 #[.val (.int p1)] [])) _
                    refine XS.iloadN X0.here hx rfl (hb hby d1_54) rfl ?_
                    show Steps p.tables e below (s₁.setTop (mkF m 55 #[.val (.int p1)] [(.int p1)])) _
                    refine XS.bipush X0.here hx rfl (hb hby d1_55) ?_
                    show Steps p.tables e below (s₁.setTop (mkF m 57 #[.val (.int p1)] [(.int (126 : Int32)), (.int p1)])) _
                    exact k)
                by_cases hc86 : p1 = (126 : Int32)
                · skip
                  have pre87 : Goes p e below s₁ (entryFrame m #[(.int p1)] 1) s₁ (mkF m 65 #[.val (.int p1)] [(.int (1 : Int32))]) := fun t k => pre85 t (by
                      refine XS.icmpNo X0.here hx rfl (hb hby d1_57) rfl (teq hc86).2 ?_
                      show Steps p.tables e below (s₁.setTop (mkF m 60 #[.val (.int p1)] [])) _
                      refine XS.iconst X0.here hx rfl (hb hby d1_60) ?_
                      show Steps p.tables e below (s₁.setTop (mkF m 61 #[.val (.int p1)] [(.int (1 : Int32))])) _
                      refine XS.goto X0.here hx rfl (pc0 := 61) (pc' := 65) rfl (hb hby d1_61) (by decide) (by decide) ?_
                      show Steps p.tables e below (s₁.setTop (mkF m 65 #[.val (.int p1)] [(.int (1 : Int32))])) _
                      exact k)
                  obtain ⟨fs, hr, hrun, hended, hW, hsame⟩ := X0.leave (v := some (.int (1 : Int32))) (fun h => by rw [Bd.returns] at h; cases h)
                  refine ⟨_, _, pre87 _ (retN X0 hx (t := .boolean) Bd.returns (by simp) (hb hby d1_65) hr), hrun, hended, _, _, rfl, ?_, ⟨_, rfl⟩, hW, hsame.mono (by decide) (by decide)⟩
                  show Q1 Z p1 h0 n0 _ s₁.heap _
                  rw [e0]
                  exact ⟨by simp [fU, hc2, hc71, hc73, hc75, hc77, hc80, hc83, hc86], N0, rfl⟩
                · skip
                  have pre88 : Goes p e below s₁ (entryFrame m #[(.int p1)] 1) s₁ (mkF m 65 #[.val (.int p1)] [(.int (0 : Int32))]) := fun t k => pre85 t (by
                      refine XS.icmpYes X0.here hx rfl (pc0 := 57) (pc' := 64) rfl (hb hby d1_57) rfl (feq hc86).2 (by decide) (by decide) ?_
                      show Steps p.tables e below (s₁.setTop (mkF m 64 #[.val (.int p1)] [])) _
                      refine XS.iconst X0.here hx rfl (hb hby d1_64) ?_
                      show Steps p.tables e below (s₁.setTop (mkF m 65 #[.val (.int p1)] [(.int (0 : Int32))])) _
                      exact k)
                  obtain ⟨fs, hr, hrun, hended, hW, hsame⟩ := X0.leave (v := some (.int (0 : Int32))) (fun h => by rw [Bd.returns] at h; cases h)
                  refine ⟨_, _, pre88 _ (retN X0 hx (t := .boolean) Bd.returns (by simp) (hb hby d1_65) hr), hrun, hended, _, _, rfl, ?_, ⟨_, rfl⟩, hW, hsame.mono (by decide) (by decide)⟩
                  show Q1 Z p1 h0 n0 _ s₁.heap _
                  rw [e0]
                  exact ⟨by simp [fU, hc2, hc71, hc73, hc75, hc77, hc80, hc83, hc86], N0, rfl⟩
        · skip
          have pre89 : Goes p e below s₁ (entryFrame m #[(.int p1)] 1) s₁ (mkF m 33 #[.val (.int p1)] [(.int (57 : Int32)), (.int p1)]) := fun t k => pre74 t (by
              refine XS.icmpNo X0.here hx rfl (hb hby d1_27) rfl (flt hc75).1 ?_
              show Steps p.tables e below (s₁.setTop (mkF m 30 #[.val (.int p1)] [])) _
              refine XS.iloadN X0.here hx rfl (hb hby d1_30) rfl ?_
              show Steps p.tables e below (s₁.setTop (mkF m 31 #[.val (.int p1)] [(.int p1)])) _
              refine XS.bipush X0.here hx rfl (hb hby d1_31) ?_
              show Steps p.tables e below (s₁.setTop (mkF m 33 #[.val (.int p1)] [(.int (57 : Int32)), (.int p1)])) _
              exact k)
          by_cases hc90 : (57 : Int32) < p1
          · skip
            have pre91 : Goes p e below s₁ (entryFrame m #[(.int p1)] 1) s₁ (mkF m 39 #[.val (.int p1)] [(.int (45 : Int32)), (.int p1)]) := fun t k => pre89 t (by
                refine XS.icmpNo X0.here hx rfl (hb hby d1_33) rfl (tlt hc90).2.2.2 ?_
                show Steps p.tables e below (s₁.setTop (mkF m 36 #[.val (.int p1)] [])) _
                refine XS.iloadN X0.here hx rfl (hb hby d1_36) rfl ?_
                show Steps p.tables e below (s₁.setTop (mkF m 37 #[.val (.int p1)] [(.int p1)])) _
                refine XS.bipush X0.here hx rfl (hb hby d1_37) ?_
                show Steps p.tables e below (s₁.setTop (mkF m 39 #[.val (.int p1)] [(.int (45 : Int32)), (.int p1)])) _
                exact k)
            by_cases hc92 : p1 = (45 : Int32)
            · skip
              have pre93 : Goes p e below s₁ (entryFrame m #[(.int p1)] 1) s₁ (mkF m 65 #[.val (.int p1)] [(.int (1 : Int32))]) := fun t k => pre91 t (by
                  refine XS.icmpYes X0.here hx rfl (pc0 := 39) (pc' := 60) rfl (hb hby d1_39) rfl (teq hc92).1 (by decide) (by decide) ?_
                  show Steps p.tables e below (s₁.setTop (mkF m 60 #[.val (.int p1)] [])) _
                  refine XS.iconst X0.here hx rfl (hb hby d1_60) ?_
                  show Steps p.tables e below (s₁.setTop (mkF m 61 #[.val (.int p1)] [(.int (1 : Int32))])) _
                  refine XS.goto X0.here hx rfl (pc0 := 61) (pc' := 65) rfl (hb hby d1_61) (by decide) (by decide) ?_
                  show Steps p.tables e below (s₁.setTop (mkF m 65 #[.val (.int p1)] [(.int (1 : Int32))])) _
                  exact k)
              obtain ⟨fs, hr, hrun, hended, hW, hsame⟩ := X0.leave (v := some (.int (1 : Int32))) (fun h => by rw [Bd.returns] at h; cases h)
              refine ⟨_, _, pre93 _ (retN X0 hx (t := .boolean) Bd.returns (by simp) (hb hby d1_65) hr), hrun, hended, _, _, rfl, ?_, ⟨_, rfl⟩, hW, hsame.mono (by decide) (by decide)⟩
              show Q1 Z p1 h0 n0 _ s₁.heap _
              rw [e0]
              exact ⟨by simp [fU, hc2, hc71, hc73, hc75, hc90, hc92], N0, rfl⟩
            · skip
              have pre94 : Goes p e below s₁ (entryFrame m #[(.int p1)] 1) s₁ (mkF m 45 #[.val (.int p1)] [(.int (46 : Int32)), (.int p1)]) := fun t k => pre91 t (by
                  refine XS.icmpNo X0.here hx rfl (hb hby d1_39) rfl (feq hc92).1 ?_
                  show Steps p.tables e below (s₁.setTop (mkF m 42 #[.val (.int p1)] [])) _
                  refine XS.iloadN X0.here hx rfl (hb hby d1_42) rfl ?_
                  show Steps p.tables e below (s₁.setTop (mkF m 43 #[.val (.int p1)] [(.int p1)])) _
                  refine XS.bipush X0.here hx rfl (hb hby d1_43) ?_
                  show Steps p.tables e below (s₁.setTop (mkF m 45 #[.val (.int p1)] [(.int (46 : Int32)), (.int p1)])) _
                  exact k)
              by_cases hc95 : p1 = (46 : Int32)
              · skip
                have pre96 : Goes p e below s₁ (entryFrame m #[(.int p1)] 1) s₁ (mkF m 65 #[.val (.int p1)] [(.int (1 : Int32))]) := fun t k => pre94 t (by
                    refine XS.icmpYes X0.here hx rfl (pc0 := 45) (pc' := 60) rfl (hb hby d1_45) rfl (teq hc95).1 (by decide) (by decide) ?_
                    show Steps p.tables e below (s₁.setTop (mkF m 60 #[.val (.int p1)] [])) _
                    refine XS.iconst X0.here hx rfl (hb hby d1_60) ?_
                    show Steps p.tables e below (s₁.setTop (mkF m 61 #[.val (.int p1)] [(.int (1 : Int32))])) _
                    refine XS.goto X0.here hx rfl (pc0 := 61) (pc' := 65) rfl (hb hby d1_61) (by decide) (by decide) ?_
                    show Steps p.tables e below (s₁.setTop (mkF m 65 #[.val (.int p1)] [(.int (1 : Int32))])) _
                    exact k)
                obtain ⟨fs, hr, hrun, hended, hW, hsame⟩ := X0.leave (v := some (.int (1 : Int32))) (fun h => by rw [Bd.returns] at h; cases h)
                refine ⟨_, _, pre96 _ (retN X0 hx (t := .boolean) Bd.returns (by simp) (hb hby d1_65) hr), hrun, hended, _, _, rfl, ?_, ⟨_, rfl⟩, hW, hsame.mono (by decide) (by decide)⟩
                show Q1 Z p1 h0 n0 _ s₁.heap _
                rw [e0]
                exact ⟨by simp [fU, hc2, hc71, hc73, hc75, hc90, hc92, hc95], N0, rfl⟩
              · skip
                have pre97 : Goes p e below s₁ (entryFrame m #[(.int p1)] 1) s₁ (mkF m 51 #[.val (.int p1)] [(.int (95 : Int32)), (.int p1)]) := fun t k => pre94 t (by
                    refine XS.icmpNo X0.here hx rfl (hb hby d1_45) rfl (feq hc95).1 ?_
                    show Steps p.tables e below (s₁.setTop (mkF m 48 #[.val (.int p1)] [])) _
                    refine XS.iloadN X0.here hx rfl (hb hby d1_48) rfl ?_
                    show Steps p.tables e below (s₁.setTop (mkF m 49 #[.val (.int p1)] [(.int p1)])) _
                    refine XS.bipush X0.here hx rfl (hb hby d1_49) ?_
                    show Steps p.tables e below (s₁.setTop (mkF m 51 #[.val (.int p1)] [(.int (95 : Int32)), (.int p1)])) _
                    exact k)
                by_cases hc98 : p1 = (95 : Int32)
                · skip
                  have pre99 : Goes p e below s₁ (entryFrame m #[(.int p1)] 1) s₁ (mkF m 65 #[.val (.int p1)] [(.int (1 : Int32))]) := fun t k => pre97 t (by
                      refine XS.icmpYes X0.here hx rfl (pc0 := 51) (pc' := 60) rfl (hb hby d1_51) rfl (teq hc98).1 (by decide) (by decide) ?_
                      show Steps p.tables e below (s₁.setTop (mkF m 60 #[.val (.int p1)] [])) _
                      refine XS.iconst X0.here hx rfl (hb hby d1_60) ?_
                      show Steps p.tables e below (s₁.setTop (mkF m 61 #[.val (.int p1)] [(.int (1 : Int32))])) _
                      refine XS.goto X0.here hx rfl (pc0 := 61) (pc' := 65) rfl (hb hby d1_61) (by decide) (by decide) ?_
                      show Steps p.tables e below (s₁.setTop (mkF m 65 #[.val (.int p1)] [(.int (1 : Int32))])) _
                      exact k)
                  obtain ⟨fs, hr, hrun, hended, hW, hsame⟩ := X0.leave (v := some (.int (1 : Int32))) (fun h => by rw [Bd.returns] at h; cases h)
                  refine ⟨_, _, pre99 _ (retN X0 hx (t := .boolean) Bd.returns (by simp) (hb hby d1_65) hr), hrun, hended, _, _, rfl, ?_, ⟨_, rfl⟩, hW, hsame.mono (by decide) (by decide)⟩
                  show Q1 Z p1 h0 n0 _ s₁.heap _
                  rw [e0]
                  exact ⟨by simp [fU, hc2, hc71, hc73, hc75, hc90, hc92, hc95, hc98], N0, rfl⟩
                · skip
                  have pre100 : Goes p e below s₁ (entryFrame m #[(.int p1)] 1) s₁ (mkF m 57 #[.val (.int p1)] [(.int (126 : Int32)), (.int p1)]) := fun t k => pre97 t (by
                      refine XS.icmpNo X0.here hx rfl (hb hby d1_51) rfl (feq hc98).1 ?_
                      show Steps p.tables e below (s₁.setTop (mkF m 54 #[.val (.int p1)] [])) _
                      refine XS.iloadN X0.here hx rfl (hb hby d1_54) rfl ?_
                      show Steps p.tables e below (s₁.setTop (mkF m 55 #[.val (.int p1)] [(.int p1)])) _
                      refine XS.bipush X0.here hx rfl (hb hby d1_55) ?_
                      show Steps p.tables e below (s₁.setTop (mkF m 57 #[.val (.int p1)] [(.int (126 : Int32)), (.int p1)])) _
                      exact k)
                  by_cases hc101 : p1 = (126 : Int32)
                  · skip
                    have pre102 : Goes p e below s₁ (entryFrame m #[(.int p1)] 1) s₁ (mkF m 65 #[.val (.int p1)] [(.int (1 : Int32))]) := fun t k => pre100 t (by
                        refine XS.icmpNo X0.here hx rfl (hb hby d1_57) rfl (teq hc101).2 ?_
                        show Steps p.tables e below (s₁.setTop (mkF m 60 #[.val (.int p1)] [])) _
                        refine XS.iconst X0.here hx rfl (hb hby d1_60) ?_
                        show Steps p.tables e below (s₁.setTop (mkF m 61 #[.val (.int p1)] [(.int (1 : Int32))])) _
                        refine XS.goto X0.here hx rfl (pc0 := 61) (pc' := 65) rfl (hb hby d1_61) (by decide) (by decide) ?_
                        show Steps p.tables e below (s₁.setTop (mkF m 65 #[.val (.int p1)] [(.int (1 : Int32))])) _
                        exact k)
                    obtain ⟨fs, hr, hrun, hended, hW, hsame⟩ := X0.leave (v := some (.int (1 : Int32))) (fun h => by rw [Bd.returns] at h; cases h)
                    refine ⟨_, _, pre102 _ (retN X0 hx (t := .boolean) Bd.returns (by simp) (hb hby d1_65) hr), hrun, hended, _, _, rfl, ?_, ⟨_, rfl⟩, hW, hsame.mono (by decide) (by decide)⟩
                    show Q1 Z p1 h0 n0 _ s₁.heap _
                    rw [e0]
                    exact ⟨by simp [fU, hc2, hc71, hc73, hc75, hc90, hc92, hc95, hc98, hc101], N0, rfl⟩
                  · skip
                    have pre103 : Goes p e below s₁ (entryFrame m #[(.int p1)] 1) s₁ (mkF m 65 #[.val (.int p1)] [(.int (0 : Int32))]) := fun t k => pre100 t (by
                        refine XS.icmpYes X0.here hx rfl (pc0 := 57) (pc' := 64) rfl (hb hby d1_57) rfl (feq hc101).2 (by decide) (by decide) ?_
                        show Steps p.tables e below (s₁.setTop (mkF m 64 #[.val (.int p1)] [])) _
                        refine XS.iconst X0.here hx rfl (hb hby d1_64) ?_
                        show Steps p.tables e below (s₁.setTop (mkF m 65 #[.val (.int p1)] [(.int (0 : Int32))])) _
                        exact k)
                    obtain ⟨fs, hr, hrun, hended, hW, hsame⟩ := X0.leave (v := some (.int (0 : Int32))) (fun h => by rw [Bd.returns] at h; cases h)
                    refine ⟨_, _, pre103 _ (retN X0 hx (t := .boolean) Bd.returns (by simp) (hb hby d1_65) hr), hrun, hended, _, _, rfl, ?_, ⟨_, rfl⟩, hW, hsame.mono (by decide) (by decide)⟩
                    show Q1 Z p1 h0 n0 _ s₁.heap _
                    rw [e0]
                    exact ⟨by simp [fU, hc2, hc71, hc73, hc75, hc90, hc92, hc95, hc98, hc101], N0, rfl⟩
          · skip
            have pre104 : Goes p e below s₁ (entryFrame m #[(.int p1)] 1) s₁ (mkF m 65 #[.val (.int p1)] [(.int (1 : Int32))]) := fun t k => pre89 t (by
                refine XS.icmpYes X0.here hx rfl (pc0 := 33) (pc' := 60) rfl (hb hby d1_33) rfl (flt hc90).2.2.2 (by decide) (by decide) ?_
                show Steps p.tables e below (s₁.setTop (mkF m 60 #[.val (.int p1)] [])) _
                refine XS.iconst X0.here hx rfl (hb hby d1_60) ?_
                show Steps p.tables e below (s₁.setTop (mkF m 61 #[.val (.int p1)] [(.int (1 : Int32))])) _
                refine XS.goto X0.here hx rfl (pc0 := 61) (pc' := 65) rfl (hb hby d1_61) (by decide) (by decide) ?_
                show Steps p.tables e below (s₁.setTop (mkF m 65 #[.val (.int p1)] [(.int (1 : Int32))])) _
                exact k)
            obtain ⟨fs, hr, hrun, hended, hW, hsame⟩ := X0.leave (v := some (.int (1 : Int32))) (fun h => by rw [Bd.returns] at h; cases h)
            refine ⟨_, _, pre104 _ (retN X0 hx (t := .boolean) Bd.returns (by simp) (hb hby d1_65) hr), hrun, hended, _, _, rfl, ?_, ⟨_, rfl⟩, hW, hsame.mono (by decide) (by decide)⟩
            show Q1 Z p1 h0 n0 _ s₁.heap _
            rw [e0]
            exact ⟨by simp [fU, hc2, hc71, hc73, hc75, hc90], N0, rfl⟩
      · skip
        have pre105 : Goes p e below s₁ (entryFrame m #[(.int p1)] 1) s₁ (mkF m 21 #[.val (.int p1)] [(.int (122 : Int32)), (.int p1)]) := fun t k => pre72 t (by
            refine XS.icmpNo X0.here hx rfl (hb hby d1_15) rfl (flt hc73).1 ?_
            show Steps p.tables e below (s₁.setTop (mkF m 18 #[.val (.int p1)] [])) _
            refine XS.iloadN X0.here hx rfl (hb hby d1_18) rfl ?_
            show Steps p.tables e below (s₁.setTop (mkF m 19 #[.val (.int p1)] [(.int p1)])) _
            refine XS.bipush X0.here hx rfl (hb hby d1_19) ?_
            show Steps p.tables e below (s₁.setTop (mkF m 21 #[.val (.int p1)] [(.int (122 : Int32)), (.int p1)])) _
            exact k)
        by_cases hc106 : (122 : Int32) < p1
        · skip
          have pre107 : Goes p e below s₁ (entryFrame m #[(.int p1)] 1) s₁ (mkF m 27 #[.val (.int p1)] [(.int (48 : Int32)), (.int p1)]) := fun t k => pre105 t (by
              refine XS.icmpNo X0.here hx rfl (hb hby d1_21) rfl (tlt hc106).2.2.2 ?_
              show Steps p.tables e below (s₁.setTop (mkF m 24 #[.val (.int p1)] [])) _
              refine XS.iloadN X0.here hx rfl (hb hby d1_24) rfl ?_
              show Steps p.tables e below (s₁.setTop (mkF m 25 #[.val (.int p1)] [(.int p1)])) _
              refine XS.bipush X0.here hx rfl (hb hby d1_25) ?_
              show Steps p.tables e below (s₁.setTop (mkF m 27 #[.val (.int p1)] [(.int (48 : Int32)), (.int p1)])) _
              exact k)
          by_cases hc108 : p1 < (48 : Int32)
          · skip
            have pre109 : Goes p e below s₁ (entryFrame m #[(.int p1)] 1) s₁ (mkF m 39 #[.val (.int p1)] [(.int (45 : Int32)), (.int p1)]) := fun t k => pre107 t (by
                refine XS.icmpYes X0.here hx rfl (pc0 := 27) (pc' := 36) rfl (hb hby d1_27) rfl (tlt hc108).1 (by decide) (by decide) ?_
                show Steps p.tables e below (s₁.setTop (mkF m 36 #[.val (.int p1)] [])) _
                refine XS.iloadN X0.here hx rfl (hb hby d1_36) rfl ?_
                show Steps p.tables e below (s₁.setTop (mkF m 37 #[.val (.int p1)] [(.int p1)])) _
                refine XS.bipush X0.here hx rfl (hb hby d1_37) ?_
                show Steps p.tables e below (s₁.setTop (mkF m 39 #[.val (.int p1)] [(.int (45 : Int32)), (.int p1)])) _
                exact k)
            by_cases hc110 : p1 = (45 : Int32)
            · skip
              have pre111 : Goes p e below s₁ (entryFrame m #[(.int p1)] 1) s₁ (mkF m 65 #[.val (.int p1)] [(.int (1 : Int32))]) := fun t k => pre109 t (by
                  refine XS.icmpYes X0.here hx rfl (pc0 := 39) (pc' := 60) rfl (hb hby d1_39) rfl (teq hc110).1 (by decide) (by decide) ?_
                  show Steps p.tables e below (s₁.setTop (mkF m 60 #[.val (.int p1)] [])) _
                  refine XS.iconst X0.here hx rfl (hb hby d1_60) ?_
                  show Steps p.tables e below (s₁.setTop (mkF m 61 #[.val (.int p1)] [(.int (1 : Int32))])) _
                  refine XS.goto X0.here hx rfl (pc0 := 61) (pc' := 65) rfl (hb hby d1_61) (by decide) (by decide) ?_
                  show Steps p.tables e below (s₁.setTop (mkF m 65 #[.val (.int p1)] [(.int (1 : Int32))])) _
                  exact k)
              obtain ⟨fs, hr, hrun, hended, hW, hsame⟩ := X0.leave (v := some (.int (1 : Int32))) (fun h => by rw [Bd.returns] at h; cases h)
              refine ⟨_, _, pre111 _ (retN X0 hx (t := .boolean) Bd.returns (by simp) (hb hby d1_65) hr), hrun, hended, _, _, rfl, ?_, ⟨_, rfl⟩, hW, hsame.mono (by decide) (by decide)⟩
              show Q1 Z p1 h0 n0 _ s₁.heap _
              rw [e0]
              exact ⟨by simp [fU, hc2, hc71, hc73, hc106, hc108, hc110], N0, rfl⟩
            · skip
              have pre112 : Goes p e below s₁ (entryFrame m #[(.int p1)] 1) s₁ (mkF m 45 #[.val (.int p1)] [(.int (46 : Int32)), (.int p1)]) := fun t k => pre109 t (by
                  refine XS.icmpNo X0.here hx rfl (hb hby d1_39) rfl (feq hc110).1 ?_
                  show Steps p.tables e below (s₁.setTop (mkF m 42 #[.val (.int p1)] [])) _
                  refine XS.iloadN X0.here hx rfl (hb hby d1_42) rfl ?_
                  show Steps p.tables e below (s₁.setTop (mkF m 43 #[.val (.int p1)] [(.int p1)])) _
                  refine XS.bipush X0.here hx rfl (hb hby d1_43) ?_
                  show Steps p.tables e below (s₁.setTop (mkF m 45 #[.val (.int p1)] [(.int (46 : Int32)), (.int p1)])) _
                  exact k)
              by_cases hc113 : p1 = (46 : Int32)
              · skip
                have pre114 : Goes p e below s₁ (entryFrame m #[(.int p1)] 1) s₁ (mkF m 65 #[.val (.int p1)] [(.int (1 : Int32))]) := fun t k => pre112 t (by
                    refine XS.icmpYes X0.here hx rfl (pc0 := 45) (pc' := 60) rfl (hb hby d1_45) rfl (teq hc113).1 (by decide) (by decide) ?_
                    show Steps p.tables e below (s₁.setTop (mkF m 60 #[.val (.int p1)] [])) _
                    refine XS.iconst X0.here hx rfl (hb hby d1_60) ?_
                    show Steps p.tables e below (s₁.setTop (mkF m 61 #[.val (.int p1)] [(.int (1 : Int32))])) _
                    refine XS.goto X0.here hx rfl (pc0 := 61) (pc' := 65) rfl (hb hby d1_61) (by decide) (by decide) ?_
                    show Steps p.tables e below (s₁.setTop (mkF m 65 #[.val (.int p1)] [(.int (1 : Int32))])) _
                    exact k)
                obtain ⟨fs, hr, hrun, hended, hW, hsame⟩ := X0.leave (v := some (.int (1 : Int32))) (fun h => by rw [Bd.returns] at h; cases h)
                refine ⟨_, _, pre114 _ (retN X0 hx (t := .boolean) Bd.returns (by simp) (hb hby d1_65) hr), hrun, hended, _, _, rfl, ?_, ⟨_, rfl⟩, hW, hsame.mono (by decide) (by decide)⟩
                show Q1 Z p1 h0 n0 _ s₁.heap _
                rw [e0]
                exact ⟨by simp [fU, hc2, hc71, hc73, hc106, hc108, hc110, hc113], N0, rfl⟩
              · skip
                have pre115 : Goes p e below s₁ (entryFrame m #[(.int p1)] 1) s₁ (mkF m 51 #[.val (.int p1)] [(.int (95 : Int32)), (.int p1)]) := fun t k => pre112 t (by
                    refine XS.icmpNo X0.here hx rfl (hb hby d1_45) rfl (feq hc113).1 ?_
                    show Steps p.tables e below (s₁.setTop (mkF m 48 #[.val (.int p1)] [])) _
                    refine XS.iloadN X0.here hx rfl (hb hby d1_48) rfl ?_
                    show Steps p.tables e below (s₁.setTop (mkF m 49 #[.val (.int p1)] [(.int p1)])) _
                    refine XS.bipush X0.here hx rfl (hb hby d1_49) ?_
                    show Steps p.tables e below (s₁.setTop (mkF m 51 #[.val (.int p1)] [(.int (95 : Int32)), (.int p1)])) _
                    exact k)
                by_cases hc116 : p1 = (95 : Int32)
                · skip
                  have pre117 : Goes p e below s₁ (entryFrame m #[(.int p1)] 1) s₁ (mkF m 65 #[.val (.int p1)] [(.int (1 : Int32))]) := fun t k => pre115 t (by
                      refine XS.icmpYes X0.here hx rfl (pc0 := 51) (pc' := 60) rfl (hb hby d1_51) rfl (teq hc116).1 (by decide) (by decide) ?_
                      show Steps p.tables e below (s₁.setTop (mkF m 60 #[.val (.int p1)] [])) _
                      refine XS.iconst X0.here hx rfl (hb hby d1_60) ?_
                      show Steps p.tables e below (s₁.setTop (mkF m 61 #[.val (.int p1)] [(.int (1 : Int32))])) _
                      refine XS.goto X0.here hx rfl (pc0 := 61) (pc' := 65) rfl (hb hby d1_61) (by decide) (by decide) ?_
                      show Steps p.tables e below (s₁.setTop (mkF m 65 #[.val (.int p1)] [(.int (1 : Int32))])) _
                      exact k)
                  obtain ⟨fs, hr, hrun, hended, hW, hsame⟩ := X0.leave (v := some (.int (1 : Int32))) (fun h => by rw [Bd.returns] at h; cases h)
                  refine ⟨_, _, pre117 _ (retN X0 hx (t := .boolean) Bd.returns (by simp) (hb hby d1_65) hr), hrun, hended, _, _, rfl, ?_, ⟨_, rfl⟩, hW, hsame.mono (by decide) (by decide)⟩
                  show Q1 Z p1 h0 n0 _ s₁.heap _
                  rw [e0]
                  exact ⟨by simp [fU, hc2, hc71, hc73, hc106, hc108, hc110, hc113, hc116], N0, rfl⟩
                · skip
                  have pre118 : Goes p e below s₁ (entryFrame m #[(.int p1)] 1) s₁ (mkF m 57 #[.val (.int p1)] [(.int (126 : Int32)), (.int p1)]) := fun t k => pre115 t (by
                      refine XS.icmpNo X0.here hx rfl (hb hby d1_51) rfl (feq hc116).1 ?_
                      show Steps p.tables e below (s₁.setTop (mkF m 54 #[.val (.int p1)] [])) _
                      refine XS.iloadN X0.here hx rfl (hb hby d1_54) rfl ?_
                      show Steps p.tables e below (s₁.setTop (mkF m 55 #[.val (.int p1)] [(.int p1)])) _
                      refine XS.bipush X0.here hx rfl (hb hby d1_55) ?_
                      show Steps p.tables e below (s₁.setTop (mkF m 57 #[.val (.int p1)] [(.int (126 : Int32)), (.int p1)])) _
                      exact k)
                  by_cases hc119 : p1 = (126 : Int32)
                  · skip
                    have pre120 : Goes p e below s₁ (entryFrame m #[(.int p1)] 1) s₁ (mkF m 65 #[.val (.int p1)] [(.int (1 : Int32))]) := fun t k => pre118 t (by
                        refine XS.icmpNo X0.here hx rfl (hb hby d1_57) rfl (teq hc119).2 ?_
                        show Steps p.tables e below (s₁.setTop (mkF m 60 #[.val (.int p1)] [])) _
                        refine XS.iconst X0.here hx rfl (hb hby d1_60) ?_
                        show Steps p.tables e below (s₁.setTop (mkF m 61 #[.val (.int p1)] [(.int (1 : Int32))])) _
                        refine XS.goto X0.here hx rfl (pc0 := 61) (pc' := 65) rfl (hb hby d1_61) (by decide) (by decide) ?_
                        show Steps p.tables e below (s₁.setTop (mkF m 65 #[.val (.int p1)] [(.int (1 : Int32))])) _
                        exact k)
                    obtain ⟨fs, hr, hrun, hended, hW, hsame⟩ := X0.leave (v := some (.int (1 : Int32))) (fun h => by rw [Bd.returns] at h; cases h)
                    refine ⟨_, _, pre120 _ (retN X0 hx (t := .boolean) Bd.returns (by simp) (hb hby d1_65) hr), hrun, hended, _, _, rfl, ?_, ⟨_, rfl⟩, hW, hsame.mono (by decide) (by decide)⟩
                    show Q1 Z p1 h0 n0 _ s₁.heap _
                    rw [e0]
                    exact ⟨by simp [fU, hc2, hc71, hc73, hc106, hc108, hc110, hc113, hc116, hc119], N0, rfl⟩
                  · skip
                    have pre121 : Goes p e below s₁ (entryFrame m #[(.int p1)] 1) s₁ (mkF m 65 #[.val (.int p1)] [(.int (0 : Int32))]) := fun t k => pre118 t (by
                        refine XS.icmpYes X0.here hx rfl (pc0 := 57) (pc' := 64) rfl (hb hby d1_57) rfl (feq hc119).2 (by decide) (by decide) ?_
                        show Steps p.tables e below (s₁.setTop (mkF m 64 #[.val (.int p1)] [])) _
                        refine XS.iconst X0.here hx rfl (hb hby d1_64) ?_
                        show Steps p.tables e below (s₁.setTop (mkF m 65 #[.val (.int p1)] [(.int (0 : Int32))])) _
                        exact k)
                    obtain ⟨fs, hr, hrun, hended, hW, hsame⟩ := X0.leave (v := some (.int (0 : Int32))) (fun h => by rw [Bd.returns] at h; cases h)
                    refine ⟨_, _, pre121 _ (retN X0 hx (t := .boolean) Bd.returns (by simp) (hb hby d1_65) hr), hrun, hended, _, _, rfl, ?_, ⟨_, rfl⟩, hW, hsame.mono (by decide) (by decide)⟩
                    show Q1 Z p1 h0 n0 _ s₁.heap _
                    rw [e0]
                    exact ⟨by simp [fU, hc2, hc71, hc73, hc106, hc108, hc110, hc113, hc116, hc119], N0, rfl⟩
          · skip
            have pre122 : Goes p e below s₁ (entryFrame m #[(.int p1)] 1) s₁ (mkF m 33 #[.val (.int p1)] [(.int (57 : Int32)), (.int p1)]) := fun t k => pre107 t (by
                refine XS.icmpNo X0.here hx rfl (hb hby d1_27) rfl (flt hc108).1 ?_
                show Steps p.tables e below (s₁.setTop (mkF m 30 #[.val (.int p1)] [])) _
                refine XS.iloadN X0.here hx rfl (hb hby d1_30) rfl ?_
                show Steps p.tables e below (s₁.setTop (mkF m 31 #[.val (.int p1)] [(.int p1)])) _
                refine XS.bipush X0.here hx rfl (hb hby d1_31) ?_
                show Steps p.tables e below (s₁.setTop (mkF m 33 #[.val (.int p1)] [(.int (57 : Int32)), (.int p1)])) _
                exact k)
            by_cases hc123 : (57 : Int32) < p1
            · skip
              have pre124 : Goes p e below s₁ (entryFrame m #[(.int p1)] 1) s₁ (mkF m 39 #[.val (.int p1)] [(.int (45 : Int32)), (.int p1)]) := fun t k => pre122 t (by
                  refine XS.icmpNo X0.here hx rfl (hb hby d1_33) rfl (tlt hc123).2.2.2 ?_
                  show Steps p.tables e below (s₁.setTop (mkF m 36 #[.val (.int p1)] [])) _
                  refine XS.iloadN X0.here hx rfl (hb hby d1_36) rfl ?_
                  show Steps p.tables e below (s₁.setTop (mkF m 37 #[.val (.int p1)] [(.int p1)])) _
                  refine XS.bipush X0.here hx rfl (hb hby d1_37) ?_
                  show Steps p.tables e below (s₁.setTop (mkF m 39 #[.val (.int p1)] [(.int (45 : Int32)), (.int p1)])) _
                  exact k)
              by_cases hc125 : p1 = (45 : Int32)
              · skip
                have pre126 : Goes p e below s₁ (entryFrame m #[(.int p1)] 1) s₁ (mkF m 65 #[.val (.int p1)] [(.int (1 : Int32))]) := fun t k => pre124 t (by
                    refine XS.icmpYes X0.here hx rfl (pc0 := 39) (pc' := 60) rfl (hb hby d1_39) rfl (teq hc125).1 (by decide) (by decide) ?_
                    show Steps p.tables e below (s₁.setTop (mkF m 60 #[.val (.int p1)] [])) _
                    refine XS.iconst X0.here hx rfl (hb hby d1_60) ?_
                    show Steps p.tables e below (s₁.setTop (mkF m 61 #[.val (.int p1)] [(.int (1 : Int32))])) _
                    refine XS.goto X0.here hx rfl (pc0 := 61) (pc' := 65) rfl (hb hby d1_61) (by decide) (by decide) ?_
                    show Steps p.tables e below (s₁.setTop (mkF m 65 #[.val (.int p1)] [(.int (1 : Int32))])) _
                    exact k)
                obtain ⟨fs, hr, hrun, hended, hW, hsame⟩ := X0.leave (v := some (.int (1 : Int32))) (fun h => by rw [Bd.returns] at h; cases h)
                refine ⟨_, _, pre126 _ (retN X0 hx (t := .boolean) Bd.returns (by simp) (hb hby d1_65) hr), hrun, hended, _, _, rfl, ?_, ⟨_, rfl⟩, hW, hsame.mono (by decide) (by decide)⟩
                show Q1 Z p1 h0 n0 _ s₁.heap _
                rw [e0]
                exact ⟨by simp [fU, hc2, hc71, hc73, hc106, hc108, hc123, hc125], N0, rfl⟩
              · skip
                have pre127 : Goes p e below s₁ (entryFrame m #[(.int p1)] 1) s₁ (mkF m 45 #[.val (.int p1)] [(.int (46 : Int32)), (.int p1)]) := fun t k => pre124 t (by
                    refine XS.icmpNo X0.here hx rfl (hb hby d1_39) rfl (feq hc125).1 ?_
                    show Steps p.tables e below (s₁.setTop (mkF m 42 #[.val (.int p1)] [])) _
                    refine XS.iloadN X0.here hx rfl (hb hby d1_42) rfl ?_
                    show Steps p.tables e below (s₁.setTop (mkF m 43 #[.val (.int p1)] [(.int p1)])) _
                    refine XS.bipush X0.here hx rfl (hb hby d1_43) ?_
                    show Steps p.tables e below (s₁.setTop (mkF m 45 #[.val (.int p1)] [(.int (46 : Int32)), (.int p1)])) _
                    exact k)
                by_cases hc128 : p1 = (46 : Int32)
                · skip
                  have pre129 : Goes p e below s₁ (entryFrame m #[(.int p1)] 1) s₁ (mkF m 65 #[.val (.int p1)] [(.int (1 : Int32))]) := fun t k => pre127 t (by
                      refine XS.icmpYes X0.here hx rfl (pc0 := 45) (pc' := 60) rfl (hb hby d1_45) rfl (teq hc128).1 (by decide) (by decide) ?_
                      show Steps p.tables e below (s₁.setTop (mkF m 60 #[.val (.int p1)] [])) _
                      refine XS.iconst X0.here hx rfl (hb hby d1_60) ?_
                      show Steps p.tables e below (s₁.setTop (mkF m 61 #[.val (.int p1)] [(.int (1 : Int32))])) _
                      refine XS.goto X0.here hx rfl (pc0 := 61) (pc' := 65) rfl (hb hby d1_61) (by decide) (by decide) ?_
                      show Steps p.tables e below (s₁.setTop (mkF m 65 #[.val (.int p1)] [(.int (1 : Int32))])) _
                      exact k)
                  obtain ⟨fs, hr, hrun, hended, hW, hsame⟩ := X0.leave (v := some (.int (1 : Int32))) (fun h => by rw [Bd.returns] at h; cases h)
                  refine ⟨_, _, pre129 _ (retN X0 hx (t := .boolean) Bd.returns (by simp) (hb hby d1_65) hr), hrun, hended, _, _, rfl, ?_, ⟨_, rfl⟩, hW, hsame.mono (by decide) (by decide)⟩
                  show Q1 Z p1 h0 n0 _ s₁.heap _
                  rw [e0]
                  exact ⟨by simp [fU, hc2, hc71, hc73, hc106, hc108, hc123, hc125, hc128], N0, rfl⟩
                · skip
                  have pre130 : Goes p e below s₁ (entryFrame m #[(.int p1)] 1) s₁ (mkF m 51 #[.val (.int p1)] [(.int (95 : Int32)), (.int p1)]) := fun t k => pre127 t (by
                      refine XS.icmpNo X0.here hx rfl (hb hby d1_45) rfl (feq hc128).1 ?_
                      show Steps p.tables e below (s₁.setTop (mkF m 48 #[.val (.int p1)] [])) _
                      refine XS.iloadN X0.here hx rfl (hb hby d1_48) rfl ?_
                      show Steps p.tables e below (s₁.setTop (mkF m 49 #[.val (.int p1)] [(.int p1)])) _
                      refine XS.bipush X0.here hx rfl (hb hby d1_49) ?_
                      show Steps p.tables e below (s₁.setTop (mkF m 51 #[.val (.int p1)] [(.int (95 : Int32)), (.int p1)])) _
                      exact k)
                  by_cases hc131 : p1 = (95 : Int32)
                  · skip
                    have pre132 : Goes p e below s₁ (entryFrame m #[(.int p1)] 1) s₁ (mkF m 65 #[.val (.int p1)] [(.int (1 : Int32))]) := fun t k => pre130 t (by
                        refine XS.icmpYes X0.here hx rfl (pc0 := 51) (pc' := 60) rfl (hb hby d1_51) rfl (teq hc131).1 (by decide) (by decide) ?_
                        show Steps p.tables e below (s₁.setTop (mkF m 60 #[.val (.int p1)] [])) _
                        refine XS.iconst X0.here hx rfl (hb hby d1_60) ?_
                        show Steps p.tables e below (s₁.setTop (mkF m 61 #[.val (.int p1)] [(.int (1 : Int32))])) _
                        refine XS.goto X0.here hx rfl (pc0 := 61) (pc' := 65) rfl (hb hby d1_61) (by decide) (by decide) ?_
                        show Steps p.tables e below (s₁.setTop (mkF m 65 #[.val (.int p1)] [(.int (1 : Int32))])) _
                        exact k)
                    obtain ⟨fs, hr, hrun, hended, hW, hsame⟩ := X0.leave (v := some (.int (1 : Int32))) (fun h => by rw [Bd.returns] at h; cases h)
                    refine ⟨_, _, pre132 _ (retN X0 hx (t := .boolean) Bd.returns (by simp) (hb hby d1_65) hr), hrun, hended, _, _, rfl, ?_, ⟨_, rfl⟩, hW, hsame.mono (by decide) (by decide)⟩
                    show Q1 Z p1 h0 n0 _ s₁.heap _
                    rw [e0]
                    exact ⟨by simp [fU, hc2, hc71, hc73, hc106, hc108, hc123, hc125, hc128, hc131], N0, rfl⟩
                  · skip
                    have pre133 : Goes p e below s₁ (entryFrame m #[(.int p1)] 1) s₁ (mkF m 57 #[.val (.int p1)] [(.int (126 : Int32)), (.int p1)]) := fun t k => pre130 t (by
                        refine XS.icmpNo X0.here hx rfl (hb hby d1_51) rfl (feq hc131).1 ?_
                        show Steps p.tables e below (s₁.setTop (mkF m 54 #[.val (.int p1)] [])) _
                        refine XS.iloadN X0.here hx rfl (hb hby d1_54) rfl ?_
                        show Steps p.tables e below (s₁.setTop (mkF m 55 #[.val (.int p1)] [(.int p1)])) _
                        refine XS.bipush X0.here hx rfl (hb hby d1_55) ?_
                        show Steps p.tables e below (s₁.setTop (mkF m 57 #[.val (.int p1)] [(.int (126 : Int32)), (.int p1)])) _
                        exact k)
                    by_cases hc134 : p1 = (126 : Int32)
                    · skip
                      have pre135 : Goes p e below s₁ (entryFrame m #[(.int p1)] 1) s₁ (mkF m 65 #[.val (.int p1)] [(.int (1 : Int32))]) := fun t k => pre133 t (by
                          refine XS.icmpNo X0.here hx rfl (hb hby d1_57) rfl (teq hc134).2 ?_
                          show Steps p.tables e below (s₁.setTop (mkF m 60 #[.val (.int p1)] [])) _
                          refine XS.iconst X0.here hx rfl (hb hby d1_60) ?_
                          show Steps p.tables e below (s₁.setTop (mkF m 61 #[.val (.int p1)] [(.int (1 : Int32))])) _
                          refine XS.goto X0.here hx rfl (pc0 := 61) (pc' := 65) rfl (hb hby d1_61) (by decide) (by decide) ?_
                          show Steps p.tables e below (s₁.setTop (mkF m 65 #[.val (.int p1)] [(.int (1 : Int32))])) _
                          exact k)
                      obtain ⟨fs, hr, hrun, hended, hW, hsame⟩ := X0.leave (v := some (.int (1 : Int32))) (fun h => by rw [Bd.returns] at h; cases h)
                      refine ⟨_, _, pre135 _ (retN X0 hx (t := .boolean) Bd.returns (by simp) (hb hby d1_65) hr), hrun, hended, _, _, rfl, ?_, ⟨_, rfl⟩, hW, hsame.mono (by decide) (by decide)⟩
                      show Q1 Z p1 h0 n0 _ s₁.heap _
                      rw [e0]
                      exact ⟨by simp [fU, hc2, hc71, hc73, hc106, hc108, hc123, hc125, hc128, hc131, hc134], N0, rfl⟩
                    · skip
                      have pre136 : Goes p e below s₁ (entryFrame m #[(.int p1)] 1) s₁ (mkF m 65 #[.val (.int p1)] [(.int (0 : Int32))]) := fun t k => pre133 t (by
                          refine XS.icmpYes X0.here hx rfl (pc0 := 57) (pc' := 64) rfl (hb hby d1_57) rfl (feq hc134).2 (by decide) (by decide) ?_
                          show Steps p.tables e below (s₁.setTop (mkF m 64 #[.val (.int p1)] [])) _
                          refine XS.iconst X0.here hx rfl (hb hby d1_64) ?_
                          show Steps p.tables e below (s₁.setTop (mkF m 65 #[.val (.int p1)] [(.int (0 : Int32))])) _
                          exact k)
                      obtain ⟨fs, hr, hrun, hended, hW, hsame⟩ := X0.leave (v := some (.int (0 : Int32))) (fun h => by rw [Bd.returns] at h; cases h)
                      refine ⟨_, _, pre136 _ (retN X0 hx (t := .boolean) Bd.returns (by simp) (hb hby d1_65) hr), hrun, hended, _, _, rfl, ?_, ⟨_, rfl⟩, hW, hsame.mono (by decide) (by decide)⟩
                      show Q1 Z p1 h0 n0 _ s₁.heap _
                      rw [e0]
                      exact ⟨by simp [fU, hc2, hc71, hc73, hc106, hc108, hc123, hc125, hc128, hc131, hc134], N0, rfl⟩
            · skip
              have pre137 : Goes p e below s₁ (entryFrame m #[(.int p1)] 1) s₁ (mkF m 65 #[.val (.int p1)] [(.int (1 : Int32))]) := fun t k => pre122 t (by
                  refine XS.icmpYes X0.here hx rfl (pc0 := 33) (pc' := 60) rfl (hb hby d1_33) rfl (flt hc123).2.2.2 (by decide) (by decide) ?_
                  show Steps p.tables e below (s₁.setTop (mkF m 60 #[.val (.int p1)] [])) _
                  refine XS.iconst X0.here hx rfl (hb hby d1_60) ?_
                  show Steps p.tables e below (s₁.setTop (mkF m 61 #[.val (.int p1)] [(.int (1 : Int32))])) _
                  refine XS.goto X0.here hx rfl (pc0 := 61) (pc' := 65) rfl (hb hby d1_61) (by decide) (by decide) ?_
                  show Steps p.tables e below (s₁.setTop (mkF m 65 #[.val (.int p1)] [(.int (1 : Int32))])) _
                  exact k)
              obtain ⟨fs, hr, hrun, hended, hW, hsame⟩ := X0.leave (v := some (.int (1 : Int32))) (fun h => by rw [Bd.returns] at h; cases h)
              refine ⟨_, _, pre137 _ (retN X0 hx (t := .boolean) Bd.returns (by simp) (hb hby d1_65) hr), hrun, hended, _, _, rfl, ?_, ⟨_, rfl⟩, hW, hsame.mono (by decide) (by decide)⟩
              show Q1 Z p1 h0 n0 _ s₁.heap _
              rw [e0]
              exact ⟨by simp [fU, hc2, hc71, hc73, hc106, hc108, hc123], N0, rfl⟩
        · skip
          have pre138 : Goes p e below s₁ (entryFrame m #[(.int p1)] 1) s₁ (mkF m 65 #[.val (.int p1)] [(.int (1 : Int32))]) := fun t k => pre105 t (by
              refine XS.icmpYes X0.here hx rfl (pc0 := 21) (pc' := 60) rfl (hb hby d1_21) rfl (flt hc106).2.2.2 (by decide) (by decide) ?_
              show Steps p.tables e below (s₁.setTop (mkF m 60 #[.val (.int p1)] [])) _
              refine XS.iconst X0.here hx rfl (hb hby d1_60) ?_
              show Steps p.tables e below (s₁.setTop (mkF m 61 #[.val (.int p1)] [(.int (1 : Int32))])) _
              refine XS.goto X0.here hx rfl (pc0 := 61) (pc' := 65) rfl (hb hby d1_61) (by decide) (by decide) ?_
              show Steps p.tables e below (s₁.setTop (mkF m 65 #[.val (.int p1)] [(.int (1 : Int32))])) _
              exact k)
          obtain ⟨fs, hr, hrun, hended, hW, hsame⟩ := X0.leave (v := some (.int (1 : Int32))) (fun h => by rw [Bd.returns] at h; cases h)
          refine ⟨_, _, pre138 _ (retN X0 hx (t := .boolean) Bd.returns (by simp) (hb hby d1_65) hr), hrun, hended, _, _, rfl, ?_, ⟨_, rfl⟩, hW, hsame.mono (by decide) (by decide)⟩
          show Q1 Z p1 h0 n0 _ s₁.heap _
          rw [e0]
          exact ⟨by simp [fU, hc2, hc71, hc73, hc106], N0, rfl⟩
    · skip
      have pre139 : Goes p e below s₁ (entryFrame m #[(.int p1)] 1) s₁ (mkF m 65 #[.val (.int p1)] [(.int (1 : Int32))]) := fun t k => pre70 t (by
          refine XS.icmpYes X0.here hx rfl (pc0 := 9) (pc' := 60) rfl (hb hby d1_9) rfl (flt hc71).2.2.2 (by decide) (by decide) ?_
          show Steps p.tables e below (s₁.setTop (mkF m 60 #[.val (.int p1)] [])) _
          refine XS.iconst X0.here hx rfl (hb hby d1_60) ?_
          show Steps p.tables e below (s₁.setTop (mkF m 61 #[.val (.int p1)] [(.int (1 : Int32))])) _
          refine XS.goto X0.here hx rfl (pc0 := 61) (pc' := 65) rfl (hb hby d1_61) (by decide) (by decide) ?_
          show Steps p.tables e below (s₁.setTop (mkF m 65 #[.val (.int p1)] [(.int (1 : Int32))])) _
          exact k)
      obtain ⟨fs, hr, hrun, hended, hW, hsame⟩ := X0.leave (v := some (.int (1 : Int32))) (fun h => by rw [Bd.returns] at h; cases h)
      refine ⟨_, _, pre139 _ (retN X0 hx (t := .boolean) Bd.returns (by simp) (hb hby d1_65) hr), hrun, hended, _, _, rfl, ?_, ⟨_, rfl⟩, hW, hsame.mono (by decide) (by decide)⟩
      show Q1 Z p1 h0 n0 _ s₁.heap _
      rw [e0]
      exact ⟨by simp [fU, hc2, hc71], N0, rfl⟩
theorem pn_2 : plainName "com/example/cardstock/cardstock/PercentEncodingIsUnreservedPinLaw" = true := by first | (simp [plainName, overriddenIn]; done) | decide +kernel
theorem ef_2 (m : MethodId) (p1 : Int32) : entryFrame m #[(.int p1)] 1 = mkF m 0 #[.val (.int p1)] [] := by first | (simp [entryFrame, mkF, argsToLocals, Value.category]; done) | rfl
set_option maxRecDepth 65536 in
set_option maxHeartbeats 40000000 in
theorem rm2 (l : Launch) (Z : State) (a0 : Array Value) (hw : ∀ d ∈ tables_1, d.before a0 Z = true) (ws : List Jvm.Cond) (p1 : Int32)  (h0 : Heap) (n0 : Nat) (Z0 : n0 ≤ h0.size)  :
    MetFree l (⟨"com/example/cardstock/cardstock/PercentEncodingIsUnreservedPinLaw", "ref", "(I)Z"⟩ : MethodName) (head1 (Jvm.Cond.code (⟨"com/example/cardstock/cardstock/PercentEncodingIsUnreservedPinLaw", "ref", "(I)Z"⟩ : MethodName) method_2_code 1 (some .boolean) :: ws) ({ frames := 0, cells := 0, slots := 0, locals := 0 } : Room)) (fun a U => a = #[(.int p1)] ∧ Z.Warmed39 U.vm ∧ U.heap = h0) (fun _ _ _ _ _ => True) (fun _ U o U' => ∃ v L, o = .returned v ∧ Q2 Z p1 h0 n0 v U'.heap L ∧ FrameEnd U o U' L ({ frames := 0, cells := 0, slots := 0, locals := 0 } : Room).cells ({ frames := 0, cells := 0, slots := 0, locals := 0 } : Room).slots) := by
  refine MetFree.of_bodySF (plainFor_of_name pn_2) hisR ?_
  intro p e s m args below meth c s₁ Bd hml0 hP hK
  obtain ⟨rfl, hZ, hh⟩ := hP
  have hx := Bd.exec
  have hby := Bd.bytes
  have hml : c.maxLocals = 1 := hml0
  have hown : s.vm.findClass "com/example/cardstock/cardstock/PercentEncodingIsUnreservedPinLaw" = some m.cls := findClass_of_methodNamed Bd.named
  have hnm := (name_of_methodNamed Bd.named Bd.method).1
  have X0 : Stand p l e ({ frames := 0, cells := 0, slots := 0, locals := 0 } : Room) s m #[(.int p1)] below meth c s₁ [] 0 0 := Stand.of_body Bd
  have e0 : s₁.heap = h0 := by rw [← hh, Bd.state]; rfl
  have N0 := Fr.nil n0
  have pre0 : Goes p e below s₁ (entryFrame m #[(.int p1)] 1) s₁ (mkF m 0 #[.val (.int p1)] []) := fun t k => castTop (ef_2 m p1) k
  have pre140 : Goes p e below s₁ (entryFrame m #[(.int p1)] 1) s₁ (mkF m 1 #[.val (.int p1)] [(.int p1)]) := fun t k => pre0 t (by
      refine XS.iloadN X0.here hx rfl (hb hby d2_0) rfl ?_
      show Steps p.tables e below (s₁.setTop (mkF m 1 #[.val (.int p1)] [(.int p1)])) _
      exact k)
  by_cases hc141 : p1 < (0 : Int32)
  · skip
    have pre143 : Goes p e below s₁ (entryFrame m #[(.int p1)] 1) s₁ (mkF m 11 #[.val (.int p1)] [(.int (0 : Int32))]) := fun t k => pre140 t (by
        refine XS.ifYes X0.here hx rfl (pc0 := 1) (pc' := 10) rfl (hb hby d2_1) rfl ((if0 _ _).trans (tlt hc141).1) (by decide) (by decide) ?_
        show Steps p.tables e below (s₁.setTop (mkF m 10 #[.val (.int p1)] [])) _
        refine XS.iconst X0.here hx rfl (hb hby d2_10) ?_
        show Steps p.tables e below (s₁.setTop (mkF m 11 #[.val (.int p1)] [(.int (0 : Int32))])) _
        exact k)
    obtain ⟨fs, hr, hrun, hended, hW, hsame⟩ := X0.leave (v := some (.int (0 : Int32))) (fun h => by rw [Bd.returns] at h; cases h)
    refine ⟨_, _, pre143 _ (retN X0 hx (t := .boolean) Bd.returns (by simp) (hb hby d2_11) hr), hrun, hended, _, _, rfl, ?_, ⟨_, rfl⟩, hW, hsame.mono (by decide) (by decide)⟩
    show Q2 Z p1 h0 n0 _ s₁.heap _
    rw [e0]
    exact ⟨by simp [fR, hc141], N0, rfl⟩
  · skip
    have pre144 : Goes p e below s₁ (entryFrame m #[(.int p1)] 1) s₁ (mkF m 7 #[.val (.int p1)] [(.int (127 : Int32)), (.int p1)]) := fun t k => pre140 t (by
        refine XS.ifNo X0.here hx rfl (hb hby d2_1) rfl ((if0 _ _).trans (flt hc141).1) ?_
        show Steps p.tables e below (s₁.setTop (mkF m 4 #[.val (.int p1)] [])) _
        refine XS.iloadN X0.here hx rfl (hb hby d2_4) rfl ?_
        show Steps p.tables e below (s₁.setTop (mkF m 5 #[.val (.int p1)] [(.int p1)])) _
        refine XS.bipush X0.here hx rfl (hb hby d2_5) ?_
        show Steps p.tables e below (s₁.setTop (mkF m 7 #[.val (.int p1)] [(.int (127 : Int32)), (.int p1)])) _
        exact k)
    by_cases hc145 : (127 : Int32) < p1
    · skip
      have pre147 : Goes p e below s₁ (entryFrame m #[(.int p1)] 1) s₁ (mkF m 11 #[.val (.int p1)] [(.int (0 : Int32))]) := fun t k => pre144 t (by
          refine XS.icmpNo X0.here hx rfl (hb hby d2_7) rfl (tlt hc145).2.2.2 ?_
          show Steps p.tables e below (s₁.setTop (mkF m 10 #[.val (.int p1)] [])) _
          refine XS.iconst X0.here hx rfl (hb hby d2_10) ?_
          show Steps p.tables e below (s₁.setTop (mkF m 11 #[.val (.int p1)] [(.int (0 : Int32))])) _
          exact k)
      obtain ⟨fs, hr, hrun, hended, hW, hsame⟩ := X0.leave (v := some (.int (0 : Int32))) (fun h => by rw [Bd.returns] at h; cases h)
      refine ⟨_, _, pre147 _ (retN X0 hx (t := .boolean) Bd.returns (by simp) (hb hby d2_11) hr), hrun, hended, _, _, rfl, ?_, ⟨_, rfl⟩, hW, hsame.mono (by decide) (by decide)⟩
      show Q2 Z p1 h0 n0 _ s₁.heap _
      rw [e0]
      exact ⟨by simp [fR, hc141, hc145], N0, rfl⟩
    · skip
      have pre148 : Goes p e below s₁ (entryFrame m #[(.int p1)] 1) s₁ (mkF m 15 #[.val (.int p1)] [(.int (64 : Int32)), (.int p1)]) := fun t k => pre144 t (by
          refine XS.icmpYes X0.here hx rfl (pc0 := 7) (pc' := 12) rfl (hb hby d2_7) rfl (flt hc145).2.2.2 (by decide) (by decide) ?_
          show Steps p.tables e below (s₁.setTop (mkF m 12 #[.val (.int p1)] [])) _
          refine XS.iloadN X0.here hx rfl (hb hby d2_12) rfl ?_
          show Steps p.tables e below (s₁.setTop (mkF m 13 #[.val (.int p1)] [(.int p1)])) _
          refine XS.bipush X0.here hx rfl (hb hby d2_13) ?_
          show Steps p.tables e below (s₁.setTop (mkF m 15 #[.val (.int p1)] [(.int (64 : Int32)), (.int p1)])) _
          exact k)
      by_cases hc149 : p1 < (64 : Int32)
      · skip
        have pre150 : Goes p e below s₁ (entryFrame m #[(.int p1)] 1) s₁ (mkF m 27 #[.val (.int p1)] [(.int (lcmpW ((((288054454291267584 : Int64).toUInt64 >>> (p1 &&& 0x3f).toInt64.toUInt64).toInt64) &&& (1 : Int64)) (0 : Int64)))]) := fun t k => pre148 t (by
            refine XS.icmpNo X0.here hx rfl (hb hby d2_15) rfl (tlt hc149).2.1 ?_
            show Steps p.tables e below (s₁.setTop (mkF m 18 #[.val (.int p1)] [])) _
            refine X0.ldc2Long hx hown (mvT hZ (hw _ (List.mem_of_getElem? (i := 8) rfl))) (g := (mkF m 18 #[.val (.int p1)] [])) rfl (hb hby d2_18) _ ?_
            show Steps p.tables e below (s₁.setTop (mkF m 21 #[.val (.int p1)] [(.long (288054454291267584 : Int64))])) _
            refine XS.iloadN X0.here hx rfl (hb hby d2_21) rfl ?_
            show Steps p.tables e below (s₁.setTop (mkF m 22 #[.val (.int p1)] [(.int p1), (.long (288054454291267584 : Int64))])) _
            refine XS.lushr X0.here hx rfl (hb hby d2_22) rfl ?_
            show Steps p.tables e below (s₁.setTop (mkF m 23 #[.val (.int p1)] [(.long (((288054454291267584 : Int64).toUInt64 >>> (p1 &&& 0x3f).toInt64.toUInt64).toInt64))])) _
            refine XS.lconst X0.here hx rfl (hb hby d2_23) ?_
            show Steps p.tables e below (s₁.setTop (mkF m 24 #[.val (.int p1)] [(.long (1 : Int64)), (.long (((288054454291267584 : Int64).toUInt64 >>> (p1 &&& 0x3f).toInt64.toUInt64).toInt64))])) _
            refine XS.land X0.here hx rfl (hb hby d2_24) rfl ?_
            show Steps p.tables e below (s₁.setTop (mkF m 25 #[.val (.int p1)] [(.long ((((288054454291267584 : Int64).toUInt64 >>> (p1 &&& 0x3f).toInt64.toUInt64).toInt64) &&& (1 : Int64)))])) _
            refine XS.lconst X0.here hx rfl (hb hby d2_25) ?_
            show Steps p.tables e below (s₁.setTop (mkF m 26 #[.val (.int p1)] [(.long (0 : Int64)), (.long ((((288054454291267584 : Int64).toUInt64 >>> (p1 &&& 0x3f).toInt64.toUInt64).toInt64) &&& (1 : Int64)))])) _
            refine XS.lcmp X0.here hx rfl (hb hby d2_26) rfl ?_
            show Steps p.tables e below (s₁.setTop (mkF m 27 #[.val (.int p1)] [(.int (lcmpW ((((288054454291267584 : Int64).toUInt64 >>> (p1 &&& 0x3f).toInt64.toUInt64).toInt64) &&& (1 : Int64)) (0 : Int64)))])) _
            exact k)
        by_cases hc151 : (lcmpW ((((288054454291267584 : Int64).toUInt64 >>> (p1 &&& 0x3f).toInt64.toUInt64).toInt64) &&& (1 : Int64)) (0 : Int64)) = (0 : Int32)
        · skip
          have pre153 : Goes p e below s₁ (entryFrame m #[(.int p1)] 1) s₁ (mkF m 35 #[.val (.int p1)] [(.int (0 : Int32))]) := fun t k => pre150 t (by
              refine XS.ifYes X0.here hx rfl (pc0 := 27) (pc' := 34) rfl (hb hby d2_27) rfl ((if0 _ _).trans (teq hc151).1) (by decide) (by decide) ?_
              show Steps p.tables e below (s₁.setTop (mkF m 34 #[.val (.int p1)] [])) _
              refine XS.iconst X0.here hx rfl (hb hby d2_34) ?_
              show Steps p.tables e below (s₁.setTop (mkF m 35 #[.val (.int p1)] [(.int (0 : Int32))])) _
              exact k)
          have hb152 : bitLo p1 = 0 := hc151
          obtain ⟨fs, hr, hrun, hended, hW, hsame⟩ := X0.leave (v := some (.int (0 : Int32))) (fun h => by rw [Bd.returns] at h; cases h)
          refine ⟨_, _, pre153 _ (retN X0 hx (t := .boolean) Bd.returns (by simp) (hb hby d2_35) hr), hrun, hended, _, _, rfl, ?_, ⟨_, rfl⟩, hW, hsame.mono (by decide) (by decide)⟩
          show Q2 Z p1 h0 n0 _ s₁.heap _
          rw [e0]
          exact ⟨by simp [fR, hc141, hc145, hc149, hb152], N0, rfl⟩
        · skip
          have pre155 : Goes p e below s₁ (entryFrame m #[(.int p1)] 1) s₁ (mkF m 35 #[.val (.int p1)] [(.int (1 : Int32))]) := fun t k => pre150 t (by
              refine XS.ifNo X0.here hx rfl (hb hby d2_27) rfl ((if0 _ _).trans (feq hc151).1) ?_
              show Steps p.tables e below (s₁.setTop (mkF m 30 #[.val (.int p1)] [])) _
              refine XS.iconst X0.here hx rfl (hb hby d2_30) ?_
              show Steps p.tables e below (s₁.setTop (mkF m 31 #[.val (.int p1)] [(.int (1 : Int32))])) _
              refine XS.goto X0.here hx rfl (pc0 := 31) (pc' := 35) rfl (hb hby d2_31) (by decide) (by decide) ?_
              show Steps p.tables e below (s₁.setTop (mkF m 35 #[.val (.int p1)] [(.int (1 : Int32))])) _
              exact k)
          have hb154 : ¬ bitLo p1 = 0 := hc151
          obtain ⟨fs, hr, hrun, hended, hW, hsame⟩ := X0.leave (v := some (.int (1 : Int32))) (fun h => by rw [Bd.returns] at h; cases h)
          refine ⟨_, _, pre155 _ (retN X0 hx (t := .boolean) Bd.returns (by simp) (hb hby d2_35) hr), hrun, hended, _, _, rfl, ?_, ⟨_, rfl⟩, hW, hsame.mono (by decide) (by decide)⟩
          show Q2 Z p1 h0 n0 _ s₁.heap _
          rw [e0]
          exact ⟨by simp [fR, hc141, hc145, hc149, hb154], N0, rfl⟩
      · skip
        have pre156 : Goes p e below s₁ (entryFrame m #[(.int p1)] 1) s₁ (mkF m 48 #[.val (.int p1)] [(.int (lcmpW ((((5188146764422578174 : Int64).toUInt64 >>> ((p1 - (64 : Int32)) &&& 0x3f).toInt64.toUInt64).toInt64) &&& (1 : Int64)) (0 : Int64)))]) := fun t k => pre148 t (by
            refine XS.icmpYes X0.here hx rfl (pc0 := 15) (pc' := 36) rfl (hb hby d2_15) rfl (flt hc149).2.1 (by decide) (by decide) ?_
            show Steps p.tables e below (s₁.setTop (mkF m 36 #[.val (.int p1)] [])) _
            refine X0.ldc2Long hx hown (mvT hZ (hw _ (List.mem_of_getElem? (i := 9) rfl))) (g := (mkF m 36 #[.val (.int p1)] [])) rfl (hb hby d2_36) _ ?_
            show Steps p.tables e below (s₁.setTop (mkF m 39 #[.val (.int p1)] [(.long (5188146764422578174 : Int64))])) _
            refine XS.iloadN X0.here hx rfl (hb hby d2_39) rfl ?_
            show Steps p.tables e below (s₁.setTop (mkF m 40 #[.val (.int p1)] [(.int p1), (.long (5188146764422578174 : Int64))])) _
            refine XS.bipush X0.here hx rfl (hb hby d2_40) ?_
            show Steps p.tables e below (s₁.setTop (mkF m 42 #[.val (.int p1)] [(.int (64 : Int32)), (.int p1), (.long (5188146764422578174 : Int64))])) _
            refine XS.isub X0.here hx rfl (hb hby d2_42) rfl ?_
            show Steps p.tables e below (s₁.setTop (mkF m 43 #[.val (.int p1)] [(.int (p1 - (64 : Int32))), (.long (5188146764422578174 : Int64))])) _
            refine XS.lushr X0.here hx rfl (hb hby d2_43) rfl ?_
            show Steps p.tables e below (s₁.setTop (mkF m 44 #[.val (.int p1)] [(.long (((5188146764422578174 : Int64).toUInt64 >>> ((p1 - (64 : Int32)) &&& 0x3f).toInt64.toUInt64).toInt64))])) _
            refine XS.lconst X0.here hx rfl (hb hby d2_44) ?_
            show Steps p.tables e below (s₁.setTop (mkF m 45 #[.val (.int p1)] [(.long (1 : Int64)), (.long (((5188146764422578174 : Int64).toUInt64 >>> ((p1 - (64 : Int32)) &&& 0x3f).toInt64.toUInt64).toInt64))])) _
            refine XS.land X0.here hx rfl (hb hby d2_45) rfl ?_
            show Steps p.tables e below (s₁.setTop (mkF m 46 #[.val (.int p1)] [(.long ((((5188146764422578174 : Int64).toUInt64 >>> ((p1 - (64 : Int32)) &&& 0x3f).toInt64.toUInt64).toInt64) &&& (1 : Int64)))])) _
            refine XS.lconst X0.here hx rfl (hb hby d2_46) ?_
            show Steps p.tables e below (s₁.setTop (mkF m 47 #[.val (.int p1)] [(.long (0 : Int64)), (.long ((((5188146764422578174 : Int64).toUInt64 >>> ((p1 - (64 : Int32)) &&& 0x3f).toInt64.toUInt64).toInt64) &&& (1 : Int64)))])) _
            refine XS.lcmp X0.here hx rfl (hb hby d2_47) rfl ?_
            show Steps p.tables e below (s₁.setTop (mkF m 48 #[.val (.int p1)] [(.int (lcmpW ((((5188146764422578174 : Int64).toUInt64 >>> ((p1 - (64 : Int32)) &&& 0x3f).toInt64.toUInt64).toInt64) &&& (1 : Int64)) (0 : Int64)))])) _
            exact k)
        by_cases hc157 : (lcmpW ((((5188146764422578174 : Int64).toUInt64 >>> ((p1 - (64 : Int32)) &&& 0x3f).toInt64.toUInt64).toInt64) &&& (1 : Int64)) (0 : Int64)) = (0 : Int32)
        · skip
          have pre159 : Goes p e below s₁ (entryFrame m #[(.int p1)] 1) s₁ (mkF m 56 #[.val (.int p1)] [(.int (0 : Int32))]) := fun t k => pre156 t (by
              refine XS.ifYes X0.here hx rfl (pc0 := 48) (pc' := 55) rfl (hb hby d2_48) rfl ((if0 _ _).trans (teq hc157).1) (by decide) (by decide) ?_
              show Steps p.tables e below (s₁.setTop (mkF m 55 #[.val (.int p1)] [])) _
              refine XS.iconst X0.here hx rfl (hb hby d2_55) ?_
              show Steps p.tables e below (s₁.setTop (mkF m 56 #[.val (.int p1)] [(.int (0 : Int32))])) _
              exact k)
          have hb158 : bitHi p1 = 0 := hc157
          obtain ⟨fs, hr, hrun, hended, hW, hsame⟩ := X0.leave (v := some (.int (0 : Int32))) (fun h => by rw [Bd.returns] at h; cases h)
          refine ⟨_, _, pre159 _ (retN X0 hx (t := .boolean) Bd.returns (by simp) (hb hby d2_56) hr), hrun, hended, _, _, rfl, ?_, ⟨_, rfl⟩, hW, hsame.mono (by decide) (by decide)⟩
          show Q2 Z p1 h0 n0 _ s₁.heap _
          rw [e0]
          exact ⟨by simp [fR, hc141, hc145, hc149, hb158], N0, rfl⟩
        · skip
          have pre161 : Goes p e below s₁ (entryFrame m #[(.int p1)] 1) s₁ (mkF m 56 #[.val (.int p1)] [(.int (1 : Int32))]) := fun t k => pre156 t (by
              refine XS.ifNo X0.here hx rfl (hb hby d2_48) rfl ((if0 _ _).trans (feq hc157).1) ?_
              show Steps p.tables e below (s₁.setTop (mkF m 51 #[.val (.int p1)] [])) _
              refine XS.iconst X0.here hx rfl (hb hby d2_51) ?_
              show Steps p.tables e below (s₁.setTop (mkF m 52 #[.val (.int p1)] [(.int (1 : Int32))])) _
              refine XS.goto X0.here hx rfl (pc0 := 52) (pc' := 56) rfl (hb hby d2_52) (by decide) (by decide) ?_
              show Steps p.tables e below (s₁.setTop (mkF m 56 #[.val (.int p1)] [(.int (1 : Int32))])) _
              exact k)
          have hb160 : ¬ bitHi p1 = 0 := hc157
          obtain ⟨fs, hr, hrun, hended, hW, hsame⟩ := X0.leave (v := some (.int (1 : Int32))) (fun h => by rw [Bd.returns] at h; cases h)
          refine ⟨_, _, pre161 _ (retN X0 hx (t := .boolean) Bd.returns (by simp) (hb hby d2_56) hr), hrun, hended, _, _, rfl, ?_, ⟨_, rfl⟩, hW, hsame.mono (by decide) (by decide)⟩
          show Q2 Z p1 h0 n0 _ s₁.heap _
          rw [e0]
          exact ⟨by simp [fR, hc141, hc145, hc149, hb160], N0, rfl⟩
theorem own_nat {c : Int32} {k : Nat} (h0 : ¬ c < 0) (h1 : c.toInt < k) : ∃ n, n < k ∧ c = Int32.ofNat n := by
  have hb := back32 h0
  refine ⟨c.toNatClampNeg, ?_, hb.1.symm⟩
  have h2 : ¬ c.toInt < 0 := fun h => h0 (Int32.lt_iff_toInt_lt.mpr h)
  have h3 : c.toNatClampNeg = c.toInt.toNat := rfl
  omega
theorem own_small : ∀ n, n < 128 → fU (Int32.ofNat n) = fR (Int32.ofNat n) := by decide +kernel
theorem own_out (c : Int32) (h : c.toInt < 0 ∨ 127 < c.toInt) : fU c = 0 := by
  simp only [fU, Int32.lt_iff_toInt_lt, ← Int32.toInt_inj]
  rw [show (65 : Int32).toInt = 65 from rfl, show (90 : Int32).toInt = 90 from rfl, show (97 : Int32).toInt = 97 from rfl, show (122 : Int32).toInt = 122 from rfl, show (48 : Int32).toInt = 48 from rfl, show (57 : Int32).toInt = 57 from rfl, show (45 : Int32).toInt = 45 from rfl, show (46 : Int32).toInt = 46 from rfl, show (95 : Int32).toInt = 95 from rfl, show (126 : Int32).toInt = 126 from rfl]
  generalize c.toInt = z at *
  have m1 : ¬ (¬ z < 65 ∧ ¬ 90 < z) := by omega
  have m2 : ¬ (¬ z < 97 ∧ ¬ 122 < z) := by omega
  have m3 : ¬ (¬ z < 48 ∧ ¬ 57 < z) := by omega
  have m4 : ¬ z = 45 := by omega
  have m5 : ¬ z = 46 := by omega
  have m6 : ¬ z = 95 := by omega
  have m7 : ¬ z = 126 := by omega
  simp only [m1, m2, m3, m4, m5, m6, m7, if_false]
theorem own_same (c : Int32) : fU c = fR c := by
  by_cases k1 : c < 0
  · rw [own_out c (Or.inl (Int32.lt_iff_toInt_lt.mp k1))]; simp [fR, k1]
  by_cases k2 : 127 < c
  · rw [own_out c (Or.inr (Int32.lt_iff_toInt_lt.mp k2))]; simp [fR, k1, k2]
  have k3 : ¬ (127 : Int32).toInt < c.toInt := fun q => k2 (Int32.lt_iff_toInt_lt.mpr q)
  have e127 : (127 : Int32).toInt = 127 := rfl
  obtain ⟨n, hn, rfl⟩ := own_nat (c := c) (k := 128) k1 (by omega)
  exact own_small n hn
def Q0 (Z : State) (p1 p2 : Int32) (h0 : Heap) (n0 : Nat) (v : Option Value) (h : Heap) (L : List Loc) : Prop := v = some (.int (1 : Int32)) ∧ Fr n0 L
theorem pn_0 : plainName "com/example/cardstock/cardstock/PercentEncodingIsUnreservedPinLaw" = true := by first | (simp [plainName, overriddenIn]; done) | decide +kernel
theorem ef_0 (m : MethodId) (p1 : Int32) (p2 : Int32) : entryFrame m #[(.int p1), (.int p2)] maxLocals = mkF m 0 #[.val (.int p1), .val (.int p2), .unset, .unset, .unset] [] := by first | (simp [entryFrame, mkF, argsToLocals, Value.category, maxLocals]; done) | rfl
set_option maxRecDepth 65536 in
set_option maxHeartbeats 40000000 in
theorem rm0 (l : Launch) (Z : State) (a0 : Array Value) (hw : ∀ d ∈ tables_1, d.before a0 Z = true) (ws : List Jvm.Cond) (p1 : Int32) (p2 : Int32)  (h0 : Heap) (n0 : Nat) (Z0 : n0 ≤ h0.size)  :
    MetFree l x (head1 (Jvm.Cond.code x code maxLocals ret :: ws) room_1) (fun a U => a = #[(.int p1), (.int p2)] ∧ Z.Warmed39 U.vm ∧ U.heap = h0) (fun _ _ _ _ _ => True) (fun _ U o U' => ∃ v L, o = .returned v ∧ Q0 Z p1 p2 h0 n0 v U'.heap L ∧ FrameEnd U o U' L room_1.cells room_1.slots) := by
  refine MetFree.of_bodySF (plainFor_of_name pn_0) hisR ?_
  intro p e s m args below meth c s₁ Bd hml0 hP hK
  obtain ⟨rfl, hZ, hh⟩ := hP
  have hx := Bd.exec
  have hby := Bd.bytes
  have hml : c.maxLocals = 5 := hml0
  have hown : s.vm.findClass "com/example/cardstock/cardstock/PercentEncodingIsUnreservedPinLaw" = some m.cls := findClass_of_methodNamed Bd.named
  have hnm := (name_of_methodNamed Bd.named Bd.method).1
  have X0 : Stand p l e room_1 s m #[(.int p1), (.int p2)] below meth c s₁ [] 0 0 := Stand.of_body Bd
  have e0 : s₁.heap = h0 := by rw [← hh, Bd.state]; rfl
  have N0 := Fr.nil n0
  have pre0 : Goes p e below s₁ (entryFrame m #[(.int p1), (.int p2)] maxLocals) s₁ (mkF m 0 #[.val (.int p1), .val (.int p2), .unset, .unset, .unset] []) := fun t k => castTop (ef_0 m p1 p2) k
  have pre162 : Goes p e below s₁ (entryFrame m #[(.int p1), (.int p2)] maxLocals) s₁ (mkF m 6 #[.val (.int p1), .val (.int p2), .val (.int (p2 &&& (255 : Int32))), .unset, .unset] []) := fun t k => pre0 t (by
      refine XS.iloadN X0.here hx rfl (hb hby at_0) rfl ?_
      show Steps p.tables e below (s₁.setTop (mkF m 1 #[.val (.int p1), .val (.int p2), .unset, .unset, .unset] [(.int p2)])) _
      refine XS.sipush X0.here hx rfl (hb hby at_1) ?_
      show Steps p.tables e below (s₁.setTop (mkF m 4 #[.val (.int p1), .val (.int p2), .unset, .unset, .unset] [(.int (255 : Int32)), (.int p2)])) _
      refine XS.iand X0.here hx rfl (hb hby at_4) rfl ?_
      show Steps p.tables e below (s₁.setTop (mkF m 5 #[.val (.int p1), .val (.int p2), .unset, .unset, .unset] [(.int (p2 &&& (255 : Int32)))])) _
      refine XS.istoreN X0.here hx rfl (hb hby at_5) rfl (l' := #[.val (.int p1), .val (.int p2), .val (.int (p2 &&& (255 : Int32))), .unset, .unset]) rfl ?_
      show Steps p.tables e below (s₁.setTop (mkF m 6 #[.val (.int p1), .val (.int p2), .val (.int (p2 &&& (255 : Int32))), .unset, .unset] [])) _
      exact k)
  obtain ⟨c1, hc1⟩ : ∃ z, z = (p2 &&& (255 : Int32)) := ⟨_, rfl⟩
  rw [← hc1] at pre162
  have pre163 : Goes p e below s₁ (entryFrame m #[(.int p1), (.int p2)] maxLocals) s₁ (mkF m 7 #[.val (.int p1), .val (.int p2), .val (.int c1), .unset, .unset] [(.int p1)]) := fun t k => pre162 t (by
      refine XS.iloadN X0.here hx rfl (hb hby at_6) rfl ?_
      show Steps p.tables e below (s₁.setTop (mkF m 7 #[.val (.int p1), .val (.int p2), .val (.int c1), .unset, .unset] [(.int p1)])) _
      exact k)
  obtain ⟨_, _, ⟨T164, L164, k164, n164⟩, -, X164, ⟨Lc164, hQ164, l164, y164, z164⟩, st164⟩ := Jvm.LawKit.callS X0 hx (y := (⟨"com/example/cardstock/cardstock/PercentEncoding", "isUnreserved", "(I)Z"⟩ : MethodName)) hown (mvT hZ (hw _ (List.mem_of_getElem? (i := 0) rfl))) (mvT hZ (hw _ (List.mem_of_getElem? (i := 1) rfl))) (mvT hZ (hw _ (List.mem_of_getElem? (i := 2) rfl))) (mvT hZ (hw _ (List.mem_of_getElem? (i := 3) rfl))) (by decide) (backOf (W := 0) (rm1 l Z a0 hw [] p1 h0 n0 Z0) hZ (hw _ (List.mem_of_getElem? (i := 3) rfl)) (hw _ (List.mem_of_getElem? (i := 2) rfl)) (by decide) (by decide)) (g := (mkF m 7 #[.val (.int p1), .val (.int p2), .val (.int c1), .unset, .unset] [(.int p1)])) rfl (by rw [hml]; rfl) (argsL := [(.int p1)]) (rest := []) (lenOf pd_0 rfl) rfl (by show 2 * 0 + _ ≤ _; exact Nat.le_of_eq rfl) (hb hby at_7) (fun _ _ => ⟨rfl, e0, (by decide : 0 + 0 ≤ _), (by decide : 0 + 0 ≤ _)⟩)
  dsimp only [Pt.U, Pt.locs, Pt.cells, Pt.slots] at X164 l164 y164 z164 st164 hQ164
  subst l164 y164 z164
  obtain ⟨rfl, N164q, eh164⟩ := hQ164
  have N164 := Fr.app N0 N164q
  have pre164 : Goes p e below s₁ (entryFrame m #[(.int p1), (.int p2)] maxLocals) T164 (mkF m 10 #[.val (.int p1), .val (.int p2), .val (.int c1), .unset, .unset] [(.int (fU p1))]) := fun t k => pre163 t (st164 _ k)
  have pre165 : Goes p e below s₁ (entryFrame m #[(.int p1), (.int p2)] maxLocals) T164 (mkF m 11 #[.val (.int p1), .val (.int p2), .val (.int c1), .unset, .unset] [(.int p1), (.int (fU p1))]) := fun t k => pre164 t (by
      refine XS.iloadN X164.here hx rfl (hb hby at_10) rfl ?_
      show Steps p.tables e below (T164.setTop (mkF m 11 #[.val (.int p1), .val (.int p2), .val (.int c1), .unset, .unset] [(.int p1), (.int (fU p1))])) _
      exact k)
  obtain ⟨_, _, ⟨T166, L166, k166, n166⟩, -, X166, ⟨Lc166, hQ166, l166, y166, z166⟩, st166⟩ := Jvm.LawKit.callS X164 hx (y := (⟨"com/example/cardstock/cardstock/PercentEncodingIsUnreservedPinLaw", "ref", "(I)Z"⟩ : MethodName)) hown (mvT hZ (hw _ (List.mem_of_getElem? (i := 4) rfl))) (mvT hZ (hw _ (List.mem_of_getElem? (i := 5) rfl))) (mvT hZ (hw _ (List.mem_of_getElem? (i := 6) rfl))) (mvT hZ (hw _ (List.mem_of_getElem? (i := 7) rfl))) (by decide) (backOf (W := 1) (rm2 l Z a0 hw [] p1 h0 n0 Z0) hZ (hw _ (List.mem_of_getElem? (i := 7) rfl)) (hw _ (List.mem_of_getElem? (i := 6) rfl)) (by decide) (by decide)) (g := (mkF m 11 #[.val (.int p1), .val (.int p2), .val (.int c1), .unset, .unset] [(.int p1), (.int (fU p1))])) rfl (by rw [hml]; rfl) (argsL := [(.int p1)]) (rest := [(.int (fU p1))]) (lenOf pd_0 rfl) rfl (by show 2 * 0 + _ ≤ _; exact Nat.le_of_eq rfl) (hb hby at_11) (fun _ _ => ⟨rfl, eh164, (by decide : 0 + 0 ≤ _), (by decide : 0 + 0 ≤ _)⟩)
  dsimp only [Pt.U, Pt.locs, Pt.cells, Pt.slots] at X166 l166 y166 z166 st166 hQ166
  subst l166 y166 z166
  obtain ⟨rfl, N166q, eh166⟩ := hQ166
  have N166 := Fr.app N164 N166q
  have pre166 : Goes p e below s₁ (entryFrame m #[(.int p1), (.int p2)] maxLocals) T166 (mkF m 14 #[.val (.int p1), .val (.int p2), .val (.int c1), .unset, .unset] [(.int (fR p1)), (.int (fU p1))]) := fun t k => pre165 t (st166 _ k)
  have pre167 : Goes p e below s₁ (entryFrame m #[(.int p1), (.int p2)] maxLocals) T166 (mkF m 24 #[.val (.int p1), .val (.int p2), .val (.int c1), .val (.int (1 : Int32)), .unset] [(.int c1)]) := fun t k => pre166 t (by
      refine XS.icmpNo X166.here hx rfl (hb hby at_14) rfl (teq (show (fU p1) = (fR p1) from (own_same _))).2 ?_
      show Steps p.tables e below (T166.setTop (mkF m 17 #[.val (.int p1), .val (.int p2), .val (.int c1), .unset, .unset] [])) _
      refine XS.iconst X166.here hx rfl (hb hby at_17) ?_
      show Steps p.tables e below (T166.setTop (mkF m 18 #[.val (.int p1), .val (.int p2), .val (.int c1), .unset, .unset] [(.int (1 : Int32))])) _
      refine XS.goto X166.here hx rfl (pc0 := 18) (pc' := 22) rfl (hb hby at_18) (by decide) (by decide) ?_
      show Steps p.tables e below (T166.setTop (mkF m 22 #[.val (.int p1), .val (.int p2), .val (.int c1), .unset, .unset] [(.int (1 : Int32))])) _
      refine XS.istoreN X166.here hx rfl (hb hby at_22) rfl (l' := #[.val (.int p1), .val (.int p2), .val (.int c1), .val (.int (1 : Int32)), .unset]) rfl ?_
      show Steps p.tables e below (T166.setTop (mkF m 23 #[.val (.int p1), .val (.int p2), .val (.int c1), .val (.int (1 : Int32)), .unset] [])) _
      refine XS.iloadN X166.here hx rfl (hb hby at_23) rfl ?_
      show Steps p.tables e below (T166.setTop (mkF m 24 #[.val (.int p1), .val (.int p2), .val (.int c1), .val (.int (1 : Int32)), .unset] [(.int c1)])) _
      exact k)
  obtain ⟨_, _, ⟨T168, L168, k168, n168⟩, -, X168, ⟨Lc168, hQ168, l168, y168, z168⟩, st168⟩ := Jvm.LawKit.callS X166 hx (y := (⟨"com/example/cardstock/cardstock/PercentEncoding", "isUnreserved", "(I)Z"⟩ : MethodName)) hown (mvT hZ (hw _ (List.mem_of_getElem? (i := 0) rfl))) (mvT hZ (hw _ (List.mem_of_getElem? (i := 1) rfl))) (mvT hZ (hw _ (List.mem_of_getElem? (i := 2) rfl))) (mvT hZ (hw _ (List.mem_of_getElem? (i := 3) rfl))) (by decide) (backOf (W := 0) (rm1 l Z a0 hw [] c1 h0 n0 Z0) hZ (hw _ (List.mem_of_getElem? (i := 3) rfl)) (hw _ (List.mem_of_getElem? (i := 2) rfl)) (by decide) (by decide)) (g := (mkF m 24 #[.val (.int p1), .val (.int p2), .val (.int c1), .val (.int (1 : Int32)), .unset] [(.int c1)])) rfl (by rw [hml]; rfl) (argsL := [(.int c1)]) (rest := []) (lenOf pd_0 rfl) rfl (by show 2 * 0 + _ ≤ _; exact Nat.le_of_eq rfl) (hb hby at_24) (fun _ _ => ⟨rfl, eh166, (by decide : 0 + 0 ≤ _), (by decide : 0 + 0 ≤ _)⟩)
  dsimp only [Pt.U, Pt.locs, Pt.cells, Pt.slots] at X168 l168 y168 z168 st168 hQ168
  subst l168 y168 z168
  obtain ⟨rfl, N168q, eh168⟩ := hQ168
  have N168 := Fr.app N166 N168q
  have pre168 : Goes p e below s₁ (entryFrame m #[(.int p1), (.int p2)] maxLocals) T168 (mkF m 27 #[.val (.int p1), .val (.int p2), .val (.int c1), .val (.int (1 : Int32)), .unset] [(.int (fU c1))]) := fun t k => pre167 t (st168 _ k)
  have pre169 : Goes p e below s₁ (entryFrame m #[(.int p1), (.int p2)] maxLocals) T168 (mkF m 28 #[.val (.int p1), .val (.int p2), .val (.int c1), .val (.int (1 : Int32)), .unset] [(.int c1), (.int (fU c1))]) := fun t k => pre168 t (by
      refine XS.iloadN X168.here hx rfl (hb hby at_27) rfl ?_
      show Steps p.tables e below (T168.setTop (mkF m 28 #[.val (.int p1), .val (.int p2), .val (.int c1), .val (.int (1 : Int32)), .unset] [(.int c1), (.int (fU c1))])) _
      exact k)
  obtain ⟨_, _, ⟨T170, L170, k170, n170⟩, -, X170, ⟨Lc170, hQ170, l170, y170, z170⟩, st170⟩ := Jvm.LawKit.callS X168 hx (y := (⟨"com/example/cardstock/cardstock/PercentEncodingIsUnreservedPinLaw", "ref", "(I)Z"⟩ : MethodName)) hown (mvT hZ (hw _ (List.mem_of_getElem? (i := 4) rfl))) (mvT hZ (hw _ (List.mem_of_getElem? (i := 5) rfl))) (mvT hZ (hw _ (List.mem_of_getElem? (i := 6) rfl))) (mvT hZ (hw _ (List.mem_of_getElem? (i := 7) rfl))) (by decide) (backOf (W := 1) (rm2 l Z a0 hw [] c1 h0 n0 Z0) hZ (hw _ (List.mem_of_getElem? (i := 7) rfl)) (hw _ (List.mem_of_getElem? (i := 6) rfl)) (by decide) (by decide)) (g := (mkF m 28 #[.val (.int p1), .val (.int p2), .val (.int c1), .val (.int (1 : Int32)), .unset] [(.int c1), (.int (fU c1))])) rfl (by rw [hml]; rfl) (argsL := [(.int c1)]) (rest := [(.int (fU c1))]) (lenOf pd_0 rfl) rfl (by show 2 * 0 + _ ≤ _; exact Nat.le_of_eq rfl) (hb hby at_28) (fun _ _ => ⟨rfl, eh168, (by decide : 0 + 0 ≤ _), (by decide : 0 + 0 ≤ _)⟩)
  dsimp only [Pt.U, Pt.locs, Pt.cells, Pt.slots] at X170 l170 y170 z170 st170 hQ170
  subst l170 y170 z170
  obtain ⟨rfl, N170q, eh170⟩ := hQ170
  have N170 := Fr.app N168 N170q
  have pre170 : Goes p e below s₁ (entryFrame m #[(.int p1), (.int p2)] maxLocals) T170 (mkF m 31 #[.val (.int p1), .val (.int p2), .val (.int c1), .val (.int (1 : Int32)), .unset] [(.int (fR c1)), (.int (fU c1))]) := fun t k => pre169 t (st170 _ k)
  have pre171 : Goes p e below s₁ (entryFrame m #[(.int p1), (.int p2)] maxLocals) T170 (mkF m 55 #[.val (.int p1), .val (.int p2), .val (.int c1), .val (.int (1 : Int32)), .val (.int (1 : Int32))] [(.int (1 : Int32))]) := fun t k => pre170 t (by
      refine XS.icmpNo X170.here hx rfl (hb hby at_31) rfl (teq (show (fU c1) = (fR c1) from (own_same _))).2 ?_
      show Steps p.tables e below (T170.setTop (mkF m 34 #[.val (.int p1), .val (.int p2), .val (.int c1), .val (.int (1 : Int32)), .unset] [])) _
      refine XS.iconst X170.here hx rfl (hb hby at_34) ?_
      show Steps p.tables e below (T170.setTop (mkF m 35 #[.val (.int p1), .val (.int p2), .val (.int c1), .val (.int (1 : Int32)), .unset] [(.int (1 : Int32))])) _
      refine XS.goto X170.here hx rfl (pc0 := 35) (pc' := 39) rfl (hb hby at_35) (by decide) (by decide) ?_
      show Steps p.tables e below (T170.setTop (mkF m 39 #[.val (.int p1), .val (.int p2), .val (.int c1), .val (.int (1 : Int32)), .unset] [(.int (1 : Int32))])) _
      refine XS.istore X170.here hx rfl (hb hby at_39) rfl (l' := #[.val (.int p1), .val (.int p2), .val (.int c1), .val (.int (1 : Int32)), .val (.int (1 : Int32))]) rfl ?_
      show Steps p.tables e below (T170.setTop (mkF m 41 #[.val (.int p1), .val (.int p2), .val (.int c1), .val (.int (1 : Int32)), .val (.int (1 : Int32))] [])) _
      refine XS.iloadN X170.here hx rfl (hb hby at_41) rfl ?_
      show Steps p.tables e below (T170.setTop (mkF m 42 #[.val (.int p1), .val (.int p2), .val (.int c1), .val (.int (1 : Int32)), .val (.int (1 : Int32))] [(.int (1 : Int32))])) _
      refine XS.ifNo X170.here hx rfl (hb hby at_42) rfl ((if0 _ _).trans (feq (show ¬ ((1 : Int32) = (0 : Int32)) from (by decide : ¬ ((1 : Int32) = (0 : Int32))))).1) ?_
      show Steps p.tables e below (T170.setTop (mkF m 45 #[.val (.int p1), .val (.int p2), .val (.int c1), .val (.int (1 : Int32)), .val (.int (1 : Int32))] [])) _
      refine XS.iload X170.here hx rfl (hb hby at_45) rfl ?_
      show Steps p.tables e below (T170.setTop (mkF m 47 #[.val (.int p1), .val (.int p2), .val (.int c1), .val (.int (1 : Int32)), .val (.int (1 : Int32))] [(.int (1 : Int32))])) _
      refine XS.ifNo X170.here hx rfl (hb hby at_47) rfl ((if0 _ _).trans (feq (show ¬ ((1 : Int32) = (0 : Int32)) from (by decide : ¬ ((1 : Int32) = (0 : Int32))))).1) ?_
      show Steps p.tables e below (T170.setTop (mkF m 50 #[.val (.int p1), .val (.int p2), .val (.int c1), .val (.int (1 : Int32)), .val (.int (1 : Int32))] [])) _
      refine XS.iconst X170.here hx rfl (hb hby at_50) ?_
      show Steps p.tables e below (T170.setTop (mkF m 51 #[.val (.int p1), .val (.int p2), .val (.int c1), .val (.int (1 : Int32)), .val (.int (1 : Int32))] [(.int (1 : Int32))])) _
      refine XS.goto X170.here hx rfl (pc0 := 51) (pc' := 55) rfl (hb hby at_51) (by decide) (by decide) ?_
      show Steps p.tables e below (T170.setTop (mkF m 55 #[.val (.int p1), .val (.int p2), .val (.int c1), .val (.int (1 : Int32)), .val (.int (1 : Int32))] [(.int (1 : Int32))])) _
      exact k)
  obtain ⟨fs, hr, hrun, hended, hW, hsame⟩ := X170.leave (v := some (.int (1 : Int32))) (fun h => by rw [Bd.returns] at h; cases h)
  refine ⟨_, _, pre171 _ (retN X170 hx (t := .boolean) Bd.returns (by simp) (hb hby at_55) hr), hrun, hended, _, _, rfl, ?_, ⟨_, rfl⟩, hW, hsame.mono (by decide) (by decide)⟩
  show Q0 Z p1 p2 h0 n0 _ T170.heap _
  exact ⟨rfl, N170⟩
set_option maxRecDepth 65536 in
set_option maxHeartbeats 40000000 in
theorem comes_1 {Post : Tables → Env → Array Value → State → Outcome → State → Prop} (hpost : ∀ tb e args s v u, (limb_1_1.after args s (.returned v) u = true ∧ limb_1_2.after args s (.returned v) u = true ∧ True) → FrameEnd s (.returned v) u (Jvm.fieldLocs frame_1_writes args s ++ Jvm.arrayLocs frame_1_arrays args s ++ Jvm.staticLocs frame_1_statics s) 0 0 → Post tb e args s (.returned v) u) :
    ArmFor flags0 classFile x code maxLocals ret World_1 tables_1 room_1 Calls_1 rest_1 Pre_1 Post := by
  intro l hfl _ _ p e ha hc hk s m args below hf hA hF happ hP
  obtain ⟨hcalls, hrest, hpre⟩ := hP
  obtain ⟨-, -, -, hnamed, -, -, -, hat⟩ := (Spec.applies_iff hf).mp happ
  obtain ⟨hg, hn⟩ := and_e (Cond.before_iff.mp (show (Jvm.Cond.and given_1 narrow_1).before args s = true from hpre))
  obtain ⟨g0, gr0⟩ := and_e hg
  obtain ⟨w0, w1, rfl⟩ : ∃ w0 w1 : Value, args = #[w0, w1] := by
    have hs : args.size = 2 := by simpa [Cond.value, given_1] using g0
    obtain ⟨L⟩ := args
    match L, hs with
    | [w0, w1], _ => exact ⟨w0, w1, rfl⟩
  have hw := fun d (hd : d ∈ tables_1) => atoms_spec (ws := Jvm.Cond.code x code maxLocals ret :: tables_1) hat d (List.mem_cons_of_mem _ hd)
  obtain ⟨g1, gr1⟩ := and_e gr0
  obtain ⟨i0, ei0⟩ := is_v g1
  obtain rfl : w0 = (.int i0) := Option.some.inj ei0
  obtain ⟨i1, ei1⟩ := is_v gr1
  obtain rfl : w1 = (.int i1) := Option.some.inj ei1
  obtain ⟨n, o, h1, h2, h3, _, L, rfl, ⟨rfl, N⟩, hq⟩ := rm0 l s _ hw tables_1 i0 i1 s.heap s.heap.size (Nat.le_refl _)  p e ha hc hk s m _ below hf ((Spec.applies_iff_loose hf).mp happ).1 ⟨rfl, State.Warmed39.refl s, rfl⟩ trivial
  refine ⟨n, _, h1, h2, h3, hpost _ _ _ _ _ _ ⟨Cond.after_iff.mpr rfl, Cond.after_iff.mpr (eq_i res_at (Term.int_eval (1)) rfl), trivial⟩ ⟨hq.1, hq.2.1, (hq.2.2.sift fun y hy => Or.inr (N y hy)).mono (by decide) (by decide)⟩⟩
theorem main_1_1 : Claimed_1_1 := comes_1 fun _ _ _ _ _ _ h hF => ⟨h.1, hF⟩
theorem main_1_2 : Claimed_1_2 := comes_1 fun _ _ _ _ _ _ h hF => ⟨h.2.1, hF⟩
end Jvm.Pilot.@@N@@
namespace Jvm.Pilot.@@N@@
open Jvm Jvm.ClassFile Sem Op Lib Jvm.Free Jvm.Stand Jvm.Pilot.@@N@@.Jvm.D
/-! MADE BY PROGRAM (witnessworld.py) out of the Statement's table words and the real class files: 9 classes; the members and pool entries that the words name. The judged class is class 1, her method 2. -/
namespace start1
open Jvm.ClassFile
def u (s : String) : CpInfo := .utf8 (stringToUtf16 s)
/-- a pool by its gaps: so many unusable entries, then the entry; so many at the end -/
def gap : Nat → List CpInfo → List CpInfo
  | 0, r => r
  | n + 1, r => .unusable :: gap n r
def poolList (es : List (Nat × CpInfo)) (last : Nat) : List CpInfo := es.foldr (fun e r => gap e.1 (e.2 :: r)) (gap last [])
def pool (es : List (Nat × CpInfo)) (last : Nat) : Array CpInfo := ⟨poolList es last⟩
def fileOf (pool : Array CpInfo) (this : Nat) (attrs : Array Attribute := #[]) (ms : Array MethodInfo := #[]) (fl : Nat := 33) (sup : Nat := 0) (ifs : Array Nat := #[]) (fds : Array FieldInfo := #[]) : ClassFile where
  minorVersion := 0
  majorVersion := 65
  constantPool := pool
  accessFlags := fl
  thisClass := this
  superClass := sup
  interfaces := ifs
  fields := fds
  methods := ms
  attributes := attrs
def plain (name : String) (sup : Option ClassId) : Class where
  name := name
  kind := .ordinary
  loader := none
  accessFlags := 33
  super := sup
  interfaces := #[]
  cf := none
  fields := #[]
  methods := #[]
  instanceTypes := #[]
  staticTypes := #[]
  resolved := #[]
  callSites := []
  init := .initialized
  statics := none
  mirror := none

def pool0 : Array CpInfo := pool [(5, u "<init>"), (0, u "()V"), (1, .class_ 10), (1, u "java/lang/Object")] 113

def k0m0 : Method := { name := "<init>", desc := "()V", sig := { parameters := [], returnType := none }, accessFlags := 1, code := none }
/-- java/lang/Object -/
def k0 : Class := { plain "java/lang/Object" none with
  accessFlags := 33
  interfaces := #[]
  cf := some (fileOf pool0 8 #[] #[{ accessFlags := 1, nameIndex := 5, descriptorIndex := 6, attributes := #[] }] 33 0 #[] #[])
  fields := #[]
  methods := #[k0m0]
  instanceTypes := #[]
  staticTypes := #[]
  resolved := Array.replicate 124 none
  statics := none }

def pool1 : Array CpInfo := pool [(2, .class_ 4), (1, u "java/lang/Object"), (0, u "<init>"), (0, u "()V"), (0, .class_ 8), (0, u "com/example/cardstock/cardstock/PercentEncodingIsUnreservedPinLaw"), (0, .long 288054454291267584), (1, .long 5188146764422578174), (1, .methodref 14 15), (0, .class_ 16), (0, .nameAndType 17 18), (0, u "com/example/cardstock/cardstock/PercentEncoding"), (0, u "isUnreserved"), (0, u "(I)Z"), (0, .methodref 7 20), (0, .nameAndType 21 18), (0, u "ref"), (0, u "LOW"), (0, u "J"), (1, u "HIGH"), (3, u "law"), (0, u "(II)Z")] 2

def k1m0 : Method := { name := "<init>", desc := "()V", sig := { parameters := [], returnType := none }, accessFlags := 2, code := none }
def k1c1 : Code := { maxStack := 4, maxLocals := 1, code := method_2_code, exceptionTable := #[], attributes := #[] }
def k1m1 : Method := { name := "ref", desc := "(I)Z", sig := { parameters := [.int], returnType := some .boolean }, accessFlags := 10, code := some k1c1 }
def k1c2 : Code := { maxStack := 2, maxLocals := 5, code := code, exceptionTable := #[], attributes := #[] }
def k1m2 : Method := { name := "law", desc := "(II)Z", sig := { parameters := [.int, .int], returnType := some .boolean }, accessFlags := 9, code := some k1c2 }
/-- com/example/cardstock/cardstock/PercentEncodingIsUnreservedPinLaw -/
def k1 : Class := { plain "com/example/cardstock/cardstock/PercentEncodingIsUnreservedPinLaw" (some 0) with
  accessFlags := 49
  interfaces := #[]
  cf := some (fileOf pool1 7 #[] #[{ accessFlags := 2, nameIndex := 5, descriptorIndex := 6, attributes := #[] }, { accessFlags := 10, nameIndex := 21, descriptorIndex := 18, attributes := #[] }, { accessFlags := 9, nameIndex := 29, descriptorIndex := 30, attributes := #[] }] 49 2 #[] #[{ accessFlags := 26, nameIndex := 22, descriptorIndex := 23, attributes := #[] }, { accessFlags := 26, nameIndex := 25, descriptorIndex := 23, attributes := #[] }])
  fields := #[{ name := "LOW", type := .long, accessFlags := 26, slot := 0, constantValue := 0 }, { name := "HIGH", type := .long, accessFlags := 26, slot := 1, constantValue := 0 }]
  methods := #[k1m0, k1m1, k1m2]
  instanceTypes := #[]
  staticTypes := #[.long, .long]
  resolved := Array.replicate 33 none
  statics := none }

def pool2 : Array CpInfo := pool [(2, .class_ 4), (1, u "java/lang/Object"), (0, u "<init>"), (0, u "()V"), (20, u "(I)Z"), (5, .class_ 35), (1, u "com/example/cardstock/cardstock/PercentEncoding"), (0, u "HEX_DIGITS"), (0, u "[C"), (17, u "isUnreserved")] 3

def k2m0 : Method := { name := "<init>", desc := "()V", sig := { parameters := [], returnType := none }, accessFlags := 2, code := none }
def k2c1 : Code := { maxStack := 2, maxLocals := 1, code := prog_22_method_3_code, exceptionTable := #[], attributes := #[] }
def k2m1 : Method := { name := "isUnreserved", desc := "(I)Z", sig := { parameters := [.int], returnType := some .boolean }, accessFlags := 8, code := some k2c1 }
/-- com/example/cardstock/cardstock/PercentEncoding -/
def k2 : Class := { plain "com/example/cardstock/cardstock/PercentEncoding" (some 0) with
  accessFlags := 48
  interfaces := #[]
  cf := some (fileOf pool2 33 #[] #[{ accessFlags := 2, nameIndex := 5, descriptorIndex := 6, attributes := #[] }, { accessFlags := 8, nameIndex := 55, descriptorIndex := 27, attributes := #[] }] 48 2 #[] #[{ accessFlags := 26, nameIndex := 36, descriptorIndex := 37, attributes := #[] }])
  fields := #[{ name := "HEX_DIGITS", type := (.array .char), accessFlags := 26, slot := 0, constantValue := 0 }]
  methods := #[k2m0, k2m1]
  instanceTypes := #[]
  staticTypes := #[(.array .char)]
  resolved := Array.replicate 59 none
  statics := none }

def pool3 : Array CpInfo := pool [(1, u "java/lang/Cloneable"), (0, .class_ 1), (0, u "java/lang/Object"), (0, .class_ 3)] 3

/-- java/lang/Cloneable -/
def k3 : Class := { plain "java/lang/Cloneable" (some 0) with
  accessFlags := 1537
  interfaces := #[]
  cf := some (fileOf pool3 2 #[] #[] 1537 4 #[] #[])
  fields := #[]
  methods := #[]
  instanceTypes := #[]
  staticTypes := #[]
  resolved := Array.replicate 8 none
  statics := none }

def pool4 : Array CpInfo := pool [(1, u "java/io/Serializable"), (0, .class_ 1), (0, u "java/lang/Object"), (0, .class_ 3)] 3

/-- java/io/Serializable -/
def k4 : Class := { plain "java/io/Serializable" (some 0) with
  accessFlags := 1537
  interfaces := #[]
  cf := some (fileOf pool4 2 #[] #[] 1537 4 #[] #[])
  fields := #[]
  methods := #[]
  instanceTypes := #[]
  staticTypes := #[]
  resolved := Array.replicate 8 none
  statics := none }

/-- the primitive byte -/
def k5 : Class := { plain "byte" none with kind := .primitive 'B', accessFlags := 0x411 }
/-- [B -/
def k6 : Class := { plain "[B" (some 0) with kind := .array 5 .byte, interfaces := #[3, 4], accessFlags := 1041 }

/-- the primitive int -/
def k7 : Class := { plain "int" none with kind := .primitive 'I', accessFlags := 0x411 }
/-- [I -/
def k8 : Class := { plain "[I" (some 0) with kind := .array 7 .int, interfaces := #[3, 4], accessFlags := 1041 }

def heap : Heap := #[]
def classes : Array Class := #[k0, k1, k2, k3, k4, k5, k6, k7, k8]
def interned : List (Array UInt16 × Addr) := []
def slotsUsed : Nat := 0
def theMethod : MethodId := ⟨1, 2⟩
def args0 : Array Value := #[.int 5, .int 7]
def aboutOver (below : List Frame) : State where
  vm := { classes := classes, interned := interned.toArray }
  heap := heap
  slotsUsed := slotsUsed
  threads := #[{ frames := .invoking theMethod args0 :: below }]
def below0 : List Frame := [.native { method := ⟨0, 0⟩, args := #[] }]
def about1 : State := aboutOver below0
def p0 : Program := .bare "" "" ""
def e0 : Env := launch0.env 0 0 0
theorem w_frames : about1.frames = Frame.invoking theMethod args0 :: below0 := rfl
set_option maxRecDepth 65536 in
theorem w_args : argsFit about1.vm theMethod args0 = true := by decide +kernel
set_option maxRecDepth 65536 in
theorem w_heap : heapFits about1 = true := by decide +kernel
set_option maxRecDepth 65536 in
theorem w_runnable : about1.curStatus? = some .runnable := by decide +kernel
set_option maxRecDepth 65536 in
theorem w_alone : about1.alone = true := by decide +kernel
set_option maxRecDepth 65536 in
theorem w_named : about1.methodNamed? x = some theMethod := by decide +kernel
set_option maxRecDepth 65536 in
theorem w_hears : about1.hears theMethod below0 = true := by decide +kernel
set_option maxRecDepth 65536 in
theorem w_ripe : about1.ripe theMethod args0 below0 = true := by decide +kernel
theorem w_running : about1.status = .running := rfl
set_option maxRecDepth 65536 in
theorem w_room : about1.hasRoom e0.platform room_1 = true :=
  launch0.hasRoom_least _ room_1 (by decide +kernel) (by decide +kernel) (by decide +kernel) (by decide +kernel) (by decide +kernel) (by decide +kernel)
theorem allAtoms_all (ts : List Jvm.Cond) (a : Array Jvm.Value) (st : Jvm.State) : (allAtoms ts).before a st = ts.all (fun c => c.before a st) := by
  induction ts with
  | nil => rfl
  | cons c t ih =>
    show (Jvm.Cond.and c (allAtoms t)).before a st = _
    rw [Jvm.Cond.before_and, ih, List.all_cons]
def words1 : List Jvm.Cond := Jvm.Cond.code x code maxLocals ret :: tables_1
/-- a 'code' word, met by the world's own term for the bytes: nothing is compared byte by byte -/
theorem code_word {y : MethodName} {bytes : ByteArray} {mx : Nat} {rt : Option FieldType} {a : Array Value} {s : State} {m : MethodId} {meth : Method} {c : Code} (h1 : s.methodNamed? y = some m) (h2 : s.vm.method? m = some meth) (h3 : meth.code = some c) (h4 : c.code = bytes)
    (h5 : (c.maxLocals == mx && c.exceptionTable.isEmpty && decide (c.maxStack ≤ mostOperands) && decide (meth.sig.returnType = rt) && !meth.locks && decide (parseMethodDescriptor y.desc = some meth.sig)) = true) : (Jvm.Cond.code y bytes mx rt).before a s = true := by
  simp only [Bool.and_eq_true, beq_iff_eq, Bool.not_eq_true', decide_eq_true_eq] at h5
  obtain ⟨⟨⟨⟨⟨g1, g2⟩, g3⟩, g4⟩, g5⟩, g6⟩ := h5
  simp [Cond.before, Cond.holds, Cond.value, h1, h2, h3, h4, g1, g2, g3, g4, g5, g6]
def isCode : Jvm.Cond → Bool
  | .code _ _ _ _ => true
  | _ => false
theorem all_split {L : List Jvm.Cond} {P : Jvm.Cond → Bool} (h1 : L.all (fun c => isCode c || P c) = true) (h2 : ∀ c ∈ L.filter isCode, P c = true) : L.all P = true := by
  refine List.all_eq_true.mpr fun c hc => ?_
  have h := List.all_eq_true.mp h1 c hc
  rcases Bool.eq_false_or_eq_true (isCode c) with hi | hi
  · exact h2 c (List.mem_filter.mpr ⟨hc, hi⟩)
  · simpa [hi] using h
set_option maxRecDepth 65536 in
theorem w_c0 : (Jvm.Cond.code x code maxLocals ret).before args0 about1 = true := code_word (m := ⟨1, 2⟩) (meth := k1m2) (c := k1c2) (by decide +kernel) rfl rfl rfl (by decide +kernel)
set_option maxRecDepth 65536 in
theorem w_c1 : (Jvm.Cond.code ({ cls := "com/example/cardstock/cardstock/PercentEncoding", name := "isUnreserved", desc := "(I)Z" } : Jvm.MethodName) prog_22_method_3_code (1 : Nat) (Option.some Jvm.ClassFile.FieldType.boolean)).before args0 about1 = true := code_word (m := ⟨2, 1⟩) (meth := k2m1) (c := k2c1) (by decide +kernel) rfl rfl rfl (by decide +kernel)
set_option maxRecDepth 65536 in
theorem w_c2 : (Jvm.Cond.code ({ cls := "com/example/cardstock/cardstock/PercentEncodingIsUnreservedPinLaw", name := "ref", desc := "(I)Z" } : Jvm.MethodName) method_2_code (1 : Nat) (Option.some Jvm.ClassFile.FieldType.boolean)).before args0 about1 = true := code_word (m := ⟨1, 1⟩) (meth := k1m1) (c := k1c1) (by decide +kernel) rfl rfl rfl (by decide +kernel)
def codes1 : List Jvm.Cond := [Jvm.Cond.code x code maxLocals ret, Jvm.Cond.code ({ cls := "com/example/cardstock/cardstock/PercentEncoding", name := "isUnreserved", desc := "(I)Z" } : Jvm.MethodName) prog_22_method_3_code (1 : Nat) (Option.some Jvm.ClassFile.FieldType.boolean), Jvm.Cond.code ({ cls := "com/example/cardstock/cardstock/PercentEncodingIsUnreservedPinLaw", name := "ref", desc := "(I)Z" } : Jvm.MethodName) method_2_code (1 : Nat) (Option.some Jvm.ClassFile.FieldType.boolean)]
set_option maxRecDepth 65536 in
theorem codes_eq : words1.filter isCode = codes1 := rfl
theorem w_codes : ∀ c ∈ words1.filter isCode, c.before args0 about1 = true := by
  rw [codes_eq]
  intro c hc
  simp only [codes1, List.mem_cons, List.not_mem_nil, or_false] at hc
  rcases hc with rfl | rfl | rfl
  · exact w_c0
  · exact w_c1
  · exact w_c2
set_option maxRecDepth 65536 in
theorem w_t1 : words1.all (fun c => isCode c || c.before args0 about1) = true := by decide +kernel
theorem w_tables : (allAtoms (Jvm.Cond.code x code maxLocals ret :: tables_1)).before args0 about1 = true := by
  rw [allAtoms_all]
  show words1.all (fun c => c.before args0 about1) = true
  refine all_split ?_ w_codes
  rw [w_t1]
set_option maxRecDepth 65536 in
theorem w_case : (Jvm.Cond.and given_1 narrow_1).before args0 about1 = true := by decide +kernel
theorem w_applies : (headSpec (Jvm.Cond.code x code maxLocals ret :: tables_1) room_1).applies x e0.platform about1 = true :=
  (Spec.applies_iff w_frames).mpr ⟨w_running, w_runnable, w_alone, w_named, w_hears, w_ripe, w_room, w_tables⟩
theorem atStart : AtStart classFile x code maxLocals ret World_1 tables_1 room_1 Calls_1 rest_1 Pre_1 launch0 p0 e0 about1 theMethod args0 below0 :=
  ⟨lists_1, trivial, launch0.admits_env _ _ _, launch0.least_env, fairChoices_fair.cas, fairChoices_fair.clock, w_frames, w_args, w_heap, w_applies, trivial, trivial, w_case⟩
end start1
theorem witness_1 : WitnessClaimed_1 := ⟨start1.p0, start1.e0, start1.about1, start1.theMethod, start1.args0, start1.below0, start1.atStart⟩
end Jvm.Pilot.@@N@@
