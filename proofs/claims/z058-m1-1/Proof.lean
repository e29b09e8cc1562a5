import JvmDerived
import JvmDerived.Pilot.@@N@@Statement
import JvmDerived.Pilot.@@N@@Code
set_option linter.unusedVariables false
set_option linter.unusedSimpArgs false
namespace Jvm.RoadKit
open Sem ClassFile Op Lib Jvm.Stand Jvm.Free Jvm.LawKit
section New
variable {p : Program} {l : Launch} {e : Env} {R : Room} {s : State} {m : MethodId} {args : Array Value} {below : List Frame} {meth : Method} {c : Code} {T : State} {locs : List Loc} {cells slots : Nat}
theorem retI (X : Stand p l e R s m args below meth c T locs cells slots) (hx : p.tables.exec = Jvm.exec) {pc : Nat} {Ls : Array Slot} {z : Int32} {rest : List Value} (hret : meth.sig.returnType = some .int) (hd : decode c.code pc = .ok (.ireturn, 1)) {fs : List Frame}
    (hl : ∀ (f : JFrame) (acts : List Action), f.method = m → f.locked = none → f.entered = [] → (doReturn e (T.setTop f) acts (some (.int z))).1 = T.setFrames fs) : Steps p.tables e below (T.setTop (mkF m pc Ls (.int z :: rest))) (T.setFrames fs) := by
  have hm' : T.vm.method? m = some meth := X.method'
  have hn : narrow .int (.int z) = .int z := rfl
  show Steps p.tables e below (T.setTop { method := m, pc := pc, locals := Ls, stack := _ :: rest, locked := none }) _
  jvm_step X.here [X.here.top, hx, hd, hm', hret, hn]
  first | (intro acts; rw [hl _ acts rfl rfl rfl]) | rw [hl _ _ rfl rfl rfl]
  exact Steps.refl _
end New
end Jvm.RoadKit
namespace Jvm.Pilot.@@N@@
open Jvm Jvm.ClassFile Sem Op Lib Jvm.Free Jvm.Stand Jvm.LawKit Jvm.RoadKit Bundle Jvm.Pilot.@@N@@.Jvm.D
theorem pd_0 : parseMethodDescriptor "(C)Z" = some ⟨[.char], some .boolean⟩ := by decide +kernel
theorem pd_1 : parseMethodDescriptor "(I)Z" = some ⟨[.int], some .boolean⟩ := by decide +kernel
theorem d1_0 : decode prog_100_method_8_code 0 = .ok (.iload_n 0, 1) := by decide +kernel
theorem d1_1 : decode prog_100_method_8_code 1 = .ok (.lookupswitch 71 #[(10, 67), (11, 67), (12, 67), (13, 67), (133, 67), (8232, 67), (8233, 67)], 67) := by decide +kernel
theorem d1_68 : decode prog_100_method_8_code 68 = .ok (.iconst 1, 1) := by decide +kernel
theorem d1_69 : decode prog_100_method_8_code 69 = .ok (.goto 4, 3) := by decide +kernel
theorem d1_72 : decode prog_100_method_8_code 72 = .ok (.iconst 0, 1) := by decide +kernel
theorem d1_73 : decode prog_100_method_8_code 73 = .ok (.ireturn, 1) := by decide +kernel
theorem d2_0 : decode method_2_code 0 = .ok (.iload_n 0, 1) := by decide +kernel
theorem d2_1 : decode method_2_code 1 = .ok (.bipush 10, 2) := by decide +kernel
theorem d2_3 : decode method_2_code 3 = .ok (.if_icmp .lt 11, 3) := by decide +kernel
theorem d2_6 : decode method_2_code 6 = .ok (.iload_n 0, 1) := by decide +kernel
theorem d2_7 : decode method_2_code 7 = .ok (.bipush 13, 2) := by decide +kernel
theorem d2_9 : decode method_2_code 9 = .ok (.if_icmp .gt 5, 3) := by decide +kernel
theorem d2_12 : decode method_2_code 12 = .ok (.iconst 1, 1) := by decide +kernel
theorem d2_13 : decode method_2_code 13 = .ok (.ireturn, 1) := by decide +kernel
theorem d2_14 : decode method_2_code 14 = .ok (.iload_n 0, 1) := by decide +kernel
theorem d2_15 : decode method_2_code 15 = .ok (.sipush 133, 3) := by decide +kernel
theorem d2_18 : decode method_2_code 18 = .ok (.if_icmp .ne 5, 3) := by decide +kernel
theorem d2_21 : decode method_2_code 21 = .ok (.iconst 1, 1) := by decide +kernel
theorem d2_22 : decode method_2_code 22 = .ok (.ireturn, 1) := by decide +kernel
theorem d2_23 : decode method_2_code 23 = .ok (.iload_n 0, 1) := by decide +kernel
theorem d2_24 : decode method_2_code 24 = .ok (.sipush 8232, 3) := by decide +kernel
theorem d2_27 : decode method_2_code 27 = .ok (.if_icmp .lt 14, 3) := by decide +kernel
theorem d2_30 : decode method_2_code 30 = .ok (.iload_n 0, 1) := by decide +kernel
theorem d2_31 : decode method_2_code 31 = .ok (.sipush 8233, 3) := by decide +kernel
theorem d2_34 : decode method_2_code 34 = .ok (.if_icmp .gt 7, 3) := by decide +kernel
theorem d2_37 : decode method_2_code 37 = .ok (.iconst 1, 1) := by decide +kernel
theorem d2_38 : decode method_2_code 38 = .ok (.goto 4, 3) := by decide +kernel
theorem d2_41 : decode method_2_code 41 = .ok (.iconst 0, 1) := by decide +kernel
theorem d2_42 : decode method_2_code 42 = .ok (.ireturn, 1) := by decide +kernel
def fL (c : Int32) : Int32 := if c = 10 then 1 else if c = 11 then 1 else if c = 12 then 1 else if c = 13 then 1 else if c = 133 then 1 else if c = 8232 then 1 else if c = 8233 then 1 else 0
def fE (v : Int32) : Int32 := if ¬ v < 10 ∧ ¬ 13 < v then 1 else if v = 133 then 1 else if ¬ v < 8232 ∧ ¬ 8233 < v then 1 else 0
def Q1 (Z : State) (p1 : Int32) (h0 : Heap) (n0 : Nat) (v : Option Value) (h : Heap) (L : List Loc) : Prop := v = some (.int (fL p1)) ∧ Fr n0 L ∧ h = h0
def Q2 (Z : State) (p1 : Int32) (h0 : Heap) (n0 : Nat) (v : Option Value) (h : Heap) (L : List Loc) : Prop := v = some (.int (fE p1)) ∧ Fr n0 L ∧ h = h0
def own_ps : Array (Int × Int) := #[(10, 67), (11, 67), (12, 67), (13, 67), (133, 67), (8232, 67), (8233, 67)]
theorem pn_1 : plainName "com/example/svarbud/svarbud/message/TextLines" = true := by first | (simp [plainName, overriddenIn]; done) | decide +kernel
theorem ef_1 (m : MethodId) (p1 : Int32) : entryFrame m #[(.int p1)] 1 = mkF m 0 #[.val (.int p1)] [] := by first | (simp [entryFrame, mkF, argsToLocals, Value.category]; done) | rfl
set_option maxRecDepth 65536 in
set_option maxHeartbeats 40000000 in
theorem rm1 (l : Launch) (Z : State) (a0 : Array Value) (hw : ∀ d ∈ tables_1, d.before a0 Z = true) (ws : List Jvm.Cond) (p1 : Int32)  (h0 : Heap) (n0 : Nat) (Z0 : n0 ≤ h0.size)  :
    MetFree l (⟨"com/example/svarbud/svarbud/message/TextLines", "isLineBreak", "(C)Z"⟩ : MethodName) (head1 (Jvm.Cond.code (⟨"com/example/svarbud/svarbud/message/TextLines", "isLineBreak", "(C)Z"⟩ : MethodName) prog_100_method_8_code 1 (some .boolean) :: ws) ({ frames := 0, cells := 0, slots := 0, locals := 0 } : Room)) (fun a U => a = #[(.int p1)] ∧ Z.Warmed39 U.vm ∧ U.heap = h0) (fun _ _ _ _ _ => True) (fun _ U o U' => ∃ v L, o = .returned v ∧ Q1 Z p1 h0 n0 v U'.heap L ∧ FrameEnd U o U' L ({ frames := 0, cells := 0, slots := 0, locals := 0 } : Room).cells ({ frames := 0, cells := 0, slots := 0, locals := 0 } : Room).slots) := by
  refine MetFree.of_bodySF (plainFor_of_name pn_1) hisR ?_
  intro p e s m args below meth c s₁ Bd hml0 hP hK
  obtain ⟨rfl, hZ, hh⟩ := hP
  have hx := Bd.exec
  have hby := Bd.bytes
  have hml : c.maxLocals = 1 := hml0
  have hown : s.vm.findClass "com/example/svarbud/svarbud/message/TextLines" = some m.cls := findClass_of_methodNamed Bd.named
  have hnm := (name_of_methodNamed Bd.named Bd.method).1
  have X0 : Stand p l e ({ frames := 0, cells := 0, slots := 0, locals := 0 } : Room) s m #[(.int p1)] below meth c s₁ [] 0 0 := Stand.of_body Bd
  have e0 : s₁.heap = h0 := by rw [← hh, Bd.state]; rfl
  have N0 := Fr.nil n0
  have pre0 : Goes p e below s₁ (entryFrame m #[(.int p1)] 1) s₁ (mkF m 0 #[.val (.int p1)] []) := fun t k => castTop (ef_1 m p1) k
  have pre1 : Goes p e below s₁ (entryFrame m #[(.int p1)] 1) s₁ (mkF m 1 #[.val (.int p1)] [(.int p1)]) := fun t k => pre0 t (by
      refine XS.iloadN X0.here hx rfl (hb hby d1_0) rfl ?_
      show Steps p.tables e below (s₁.setTop (mkF m 1 #[.val (.int p1)] [(.int p1)])) _
      exact k)
  by_cases hk10 : p1 = (10 : Int32)
  · skip
    have pre2 : Goes p e below s₁ (entryFrame m #[(.int p1)] 1) s₁ (mkF m 73 #[.val (.int p1)] [(.int (1 : Int32))]) := fun t k => pre1 t (by
        refine X0.lookupswitchHit hx (g := (mkF m 1 #[.val (.int p1)] [(.int p1)])) rfl rfl (hb hby d1_1) (by decide) (a := 10) (off := 67) (by rw [hk10]; decide) (show (0 : Int) ≤ 1 + 67 by decide) _ ?_
        show Steps p.tables e below (s₁.setTop (mkF m 68 #[.val (.int p1)] [])) _
        refine XS.iconst X0.here hx rfl (hb hby d1_68) ?_
        show Steps p.tables e below (s₁.setTop (mkF m 69 #[.val (.int p1)] [(.int (1 : Int32))])) _
        refine XS.goto X0.here hx rfl (pc0 := 69) (pc' := 73) rfl (hb hby d1_69) (by decide) (by decide) ?_
        show Steps p.tables e below (s₁.setTop (mkF m 73 #[.val (.int p1)] [(.int (1 : Int32))])) _
        exact k)
    obtain ⟨fs, hr, hrun, hended, hW, hsame⟩ := X0.leave (v := some (.int (1 : Int32))) (fun h => by rw [Bd.returns] at h; cases h)
    refine ⟨_, _, pre2 _ (retN X0 hx (t := .boolean) Bd.returns (by simp) (hb hby d1_73) hr), hrun, hended, _, _, rfl, ?_, ⟨_, rfl⟩, hW, hsame.mono (by decide) (by decide)⟩
    show Q1 Z p1 h0 n0 _ s₁.heap _
    rw [e0]
    exact ⟨by simp [fL, hk10], N0, rfl⟩
  · skip
    by_cases hk11 : p1 = (11 : Int32)
    · skip
      have pre3 : Goes p e below s₁ (entryFrame m #[(.int p1)] 1) s₁ (mkF m 73 #[.val (.int p1)] [(.int (1 : Int32))]) := fun t k => pre1 t (by
          refine X0.lookupswitchHit hx (g := (mkF m 1 #[.val (.int p1)] [(.int p1)])) rfl rfl (hb hby d1_1) (by decide) (a := 11) (off := 67) (by rw [hk11]; decide) (show (0 : Int) ≤ 1 + 67 by decide) _ ?_
          show Steps p.tables e below (s₁.setTop (mkF m 68 #[.val (.int p1)] [])) _
          refine XS.iconst X0.here hx rfl (hb hby d1_68) ?_
          show Steps p.tables e below (s₁.setTop (mkF m 69 #[.val (.int p1)] [(.int (1 : Int32))])) _
          refine XS.goto X0.here hx rfl (pc0 := 69) (pc' := 73) rfl (hb hby d1_69) (by decide) (by decide) ?_
          show Steps p.tables e below (s₁.setTop (mkF m 73 #[.val (.int p1)] [(.int (1 : Int32))])) _
          exact k)
      obtain ⟨fs, hr, hrun, hended, hW, hsame⟩ := X0.leave (v := some (.int (1 : Int32))) (fun h => by rw [Bd.returns] at h; cases h)
      refine ⟨_, _, pre3 _ (retN X0 hx (t := .boolean) Bd.returns (by simp) (hb hby d1_73) hr), hrun, hended, _, _, rfl, ?_, ⟨_, rfl⟩, hW, hsame.mono (by decide) (by decide)⟩
      show Q1 Z p1 h0 n0 _ s₁.heap _
      rw [e0]
      exact ⟨by simp [fL, hk10, hk11], N0, rfl⟩
    · skip
      by_cases hk12 : p1 = (12 : Int32)
      · skip
        have pre4 : Goes p e below s₁ (entryFrame m #[(.int p1)] 1) s₁ (mkF m 73 #[.val (.int p1)] [(.int (1 : Int32))]) := fun t k => pre1 t (by
            refine X0.lookupswitchHit hx (g := (mkF m 1 #[.val (.int p1)] [(.int p1)])) rfl rfl (hb hby d1_1) (by decide) (a := 12) (off := 67) (by rw [hk12]; decide) (show (0 : Int) ≤ 1 + 67 by decide) _ ?_
            show Steps p.tables e below (s₁.setTop (mkF m 68 #[.val (.int p1)] [])) _
            refine XS.iconst X0.here hx rfl (hb hby d1_68) ?_
            show Steps p.tables e below (s₁.setTop (mkF m 69 #[.val (.int p1)] [(.int (1 : Int32))])) _
            refine XS.goto X0.here hx rfl (pc0 := 69) (pc' := 73) rfl (hb hby d1_69) (by decide) (by decide) ?_
            show Steps p.tables e below (s₁.setTop (mkF m 73 #[.val (.int p1)] [(.int (1 : Int32))])) _
            exact k)
        obtain ⟨fs, hr, hrun, hended, hW, hsame⟩ := X0.leave (v := some (.int (1 : Int32))) (fun h => by rw [Bd.returns] at h; cases h)
        refine ⟨_, _, pre4 _ (retN X0 hx (t := .boolean) Bd.returns (by simp) (hb hby d1_73) hr), hrun, hended, _, _, rfl, ?_, ⟨_, rfl⟩, hW, hsame.mono (by decide) (by decide)⟩
        show Q1 Z p1 h0 n0 _ s₁.heap _
        rw [e0]
        exact ⟨by simp [fL, hk10, hk11, hk12], N0, rfl⟩
      · skip
        by_cases hk13 : p1 = (13 : Int32)
        · skip
          have pre5 : Goes p e below s₁ (entryFrame m #[(.int p1)] 1) s₁ (mkF m 73 #[.val (.int p1)] [(.int (1 : Int32))]) := fun t k => pre1 t (by
              refine X0.lookupswitchHit hx (g := (mkF m 1 #[.val (.int p1)] [(.int p1)])) rfl rfl (hb hby d1_1) (by decide) (a := 13) (off := 67) (by rw [hk13]; decide) (show (0 : Int) ≤ 1 + 67 by decide) _ ?_
              show Steps p.tables e below (s₁.setTop (mkF m 68 #[.val (.int p1)] [])) _
              refine XS.iconst X0.here hx rfl (hb hby d1_68) ?_
              show Steps p.tables e below (s₁.setTop (mkF m 69 #[.val (.int p1)] [(.int (1 : Int32))])) _
              refine XS.goto X0.here hx rfl (pc0 := 69) (pc' := 73) rfl (hb hby d1_69) (by decide) (by decide) ?_
              show Steps p.tables e below (s₁.setTop (mkF m 73 #[.val (.int p1)] [(.int (1 : Int32))])) _
              exact k)
          obtain ⟨fs, hr, hrun, hended, hW, hsame⟩ := X0.leave (v := some (.int (1 : Int32))) (fun h => by rw [Bd.returns] at h; cases h)
          refine ⟨_, _, pre5 _ (retN X0 hx (t := .boolean) Bd.returns (by simp) (hb hby d1_73) hr), hrun, hended, _, _, rfl, ?_, ⟨_, rfl⟩, hW, hsame.mono (by decide) (by decide)⟩
          show Q1 Z p1 h0 n0 _ s₁.heap _
          rw [e0]
          exact ⟨by simp [fL, hk10, hk11, hk12, hk13], N0, rfl⟩
        · skip
          by_cases hk133 : p1 = (133 : Int32)
          · skip
            have pre6 : Goes p e below s₁ (entryFrame m #[(.int p1)] 1) s₁ (mkF m 73 #[.val (.int p1)] [(.int (1 : Int32))]) := fun t k => pre1 t (by
                refine X0.lookupswitchHit hx (g := (mkF m 1 #[.val (.int p1)] [(.int p1)])) rfl rfl (hb hby d1_1) (by decide) (a := 133) (off := 67) (by rw [hk133]; decide) (show (0 : Int) ≤ 1 + 67 by decide) _ ?_
                show Steps p.tables e below (s₁.setTop (mkF m 68 #[.val (.int p1)] [])) _
                refine XS.iconst X0.here hx rfl (hb hby d1_68) ?_
                show Steps p.tables e below (s₁.setTop (mkF m 69 #[.val (.int p1)] [(.int (1 : Int32))])) _
                refine XS.goto X0.here hx rfl (pc0 := 69) (pc' := 73) rfl (hb hby d1_69) (by decide) (by decide) ?_
                show Steps p.tables e below (s₁.setTop (mkF m 73 #[.val (.int p1)] [(.int (1 : Int32))])) _
                exact k)
            obtain ⟨fs, hr, hrun, hended, hW, hsame⟩ := X0.leave (v := some (.int (1 : Int32))) (fun h => by rw [Bd.returns] at h; cases h)
            refine ⟨_, _, pre6 _ (retN X0 hx (t := .boolean) Bd.returns (by simp) (hb hby d1_73) hr), hrun, hended, _, _, rfl, ?_, ⟨_, rfl⟩, hW, hsame.mono (by decide) (by decide)⟩
            show Q1 Z p1 h0 n0 _ s₁.heap _
            rw [e0]
            exact ⟨by simp [fL, hk10, hk11, hk12, hk13, hk133], N0, rfl⟩
          · skip
            by_cases hk8232 : p1 = (8232 : Int32)
            · skip
              have pre7 : Goes p e below s₁ (entryFrame m #[(.int p1)] 1) s₁ (mkF m 73 #[.val (.int p1)] [(.int (1 : Int32))]) := fun t k => pre1 t (by
                  refine X0.lookupswitchHit hx (g := (mkF m 1 #[.val (.int p1)] [(.int p1)])) rfl rfl (hb hby d1_1) (by decide) (a := 8232) (off := 67) (by rw [hk8232]; decide) (show (0 : Int) ≤ 1 + 67 by decide) _ ?_
                  show Steps p.tables e below (s₁.setTop (mkF m 68 #[.val (.int p1)] [])) _
                  refine XS.iconst X0.here hx rfl (hb hby d1_68) ?_
                  show Steps p.tables e below (s₁.setTop (mkF m 69 #[.val (.int p1)] [(.int (1 : Int32))])) _
                  refine XS.goto X0.here hx rfl (pc0 := 69) (pc' := 73) rfl (hb hby d1_69) (by decide) (by decide) ?_
                  show Steps p.tables e below (s₁.setTop (mkF m 73 #[.val (.int p1)] [(.int (1 : Int32))])) _
                  exact k)
              obtain ⟨fs, hr, hrun, hended, hW, hsame⟩ := X0.leave (v := some (.int (1 : Int32))) (fun h => by rw [Bd.returns] at h; cases h)
              refine ⟨_, _, pre7 _ (retN X0 hx (t := .boolean) Bd.returns (by simp) (hb hby d1_73) hr), hrun, hended, _, _, rfl, ?_, ⟨_, rfl⟩, hW, hsame.mono (by decide) (by decide)⟩
              show Q1 Z p1 h0 n0 _ s₁.heap _
              rw [e0]
              exact ⟨by simp [fL, hk10, hk11, hk12, hk13, hk133, hk8232], N0, rfl⟩
            · skip
              by_cases hk8233 : p1 = (8233 : Int32)
              · skip
                have pre8 : Goes p e below s₁ (entryFrame m #[(.int p1)] 1) s₁ (mkF m 73 #[.val (.int p1)] [(.int (1 : Int32))]) := fun t k => pre1 t (by
                    refine X0.lookupswitchHit hx (g := (mkF m 1 #[.val (.int p1)] [(.int p1)])) rfl rfl (hb hby d1_1) (by decide) (a := 8233) (off := 67) (by rw [hk8233]; decide) (show (0 : Int) ≤ 1 + 67 by decide) _ ?_
                    show Steps p.tables e below (s₁.setTop (mkF m 68 #[.val (.int p1)] [])) _
                    refine XS.iconst X0.here hx rfl (hb hby d1_68) ?_
                    show Steps p.tables e below (s₁.setTop (mkF m 69 #[.val (.int p1)] [(.int (1 : Int32))])) _
                    refine XS.goto X0.here hx rfl (pc0 := 69) (pc' := 73) rfl (hb hby d1_69) (by decide) (by decide) ?_
                    show Steps p.tables e below (s₁.setTop (mkF m 73 #[.val (.int p1)] [(.int (1 : Int32))])) _
                    exact k)
                obtain ⟨fs, hr, hrun, hended, hW, hsame⟩ := X0.leave (v := some (.int (1 : Int32))) (fun h => by rw [Bd.returns] at h; cases h)
                refine ⟨_, _, pre8 _ (retN X0 hx (t := .boolean) Bd.returns (by simp) (hb hby d1_73) hr), hrun, hended, _, _, rfl, ?_, ⟨_, rfl⟩, hW, hsame.mono (by decide) (by decide)⟩
                show Q1 Z p1 h0 n0 _ s₁.heap _
                rw [e0]
                exact ⟨by simp [fL, hk10, hk11, hk12, hk13, hk133, hk8232, hk8233], N0, rfl⟩
              · skip
                have hmiss : own_ps.find? (·.1 == p1.toInt) = none := find_miss (by
                  intro q hq
                  simp only [own_ps, List.mem_cons, List.not_mem_nil, or_false] at hq
                  rcases hq with rfl | rfl | rfl | rfl | rfl | rfl | rfl
                  · exact fun e => hk10 (Int32.toInt_inj.mp e.symm)
                  · exact fun e => hk11 (Int32.toInt_inj.mp e.symm)
                  · exact fun e => hk12 (Int32.toInt_inj.mp e.symm)
                  · exact fun e => hk13 (Int32.toInt_inj.mp e.symm)
                  · exact fun e => hk133 (Int32.toInt_inj.mp e.symm)
                  · exact fun e => hk8232 (Int32.toInt_inj.mp e.symm)
                  · exact fun e => hk8233 (Int32.toInt_inj.mp e.symm))
                have pre9 : Goes p e below s₁ (entryFrame m #[(.int p1)] 1) s₁ (mkF m 73 #[.val (.int p1)] [(.int (0 : Int32))]) := fun t k => pre1 t (by
                    refine X0.lookupswitchMiss hx (g := (mkF m 1 #[.val (.int p1)] [(.int p1)])) rfl rfl (hb hby d1_1) (by decide) hmiss (show (0 : Int) ≤ 1 + 71 by decide) _ ?_
                    show Steps p.tables e below (s₁.setTop (mkF m 72 #[.val (.int p1)] [])) _
                    refine XS.iconst X0.here hx rfl (hb hby d1_72) ?_
                    show Steps p.tables e below (s₁.setTop (mkF m 73 #[.val (.int p1)] [(.int (0 : Int32))])) _
                    exact k)
                obtain ⟨fs, hr, hrun, hended, hW, hsame⟩ := X0.leave (v := some (.int (0 : Int32))) (fun h => by rw [Bd.returns] at h; cases h)
                refine ⟨_, _, pre9 _ (retN X0 hx (t := .boolean) Bd.returns (by simp) (hb hby d1_73) hr), hrun, hended, _, _, rfl, ?_, ⟨_, rfl⟩, hW, hsame.mono (by decide) (by decide)⟩
                show Q1 Z p1 h0 n0 _ s₁.heap _
                rw [e0]
                exact ⟨by simp [fL, hk10, hk11, hk12, hk13, hk133, hk8232, hk8233], N0, rfl⟩
theorem pn_2 : plainName "com/example/svarbud/svarbud/message/TextLinesIsLineBreakPinLaw" = true := by first | (simp [plainName, overriddenIn]; done) | decide +kernel
theorem ef_2 (m : MethodId) (p1 : Int32) : entryFrame m #[(.int p1)] 1 = mkF m 0 #[.val (.int p1)] [] := by first | (simp [entryFrame, mkF, argsToLocals, Value.category]; done) | rfl
set_option maxRecDepth 65536 in
set_option maxHeartbeats 40000000 in
theorem rm2 (l : Launch) (Z : State) (a0 : Array Value) (hw : ∀ d ∈ tables_1, d.before a0 Z = true) (ws : List Jvm.Cond) (p1 : Int32)  (h0 : Heap) (n0 : Nat) (Z0 : n0 ≤ h0.size)  :
    MetFree l (⟨"com/example/svarbud/svarbud/message/TextLinesIsLineBreakPinLaw", "expected", "(I)Z"⟩ : MethodName) (head1 (Jvm.Cond.code (⟨"com/example/svarbud/svarbud/message/TextLinesIsLineBreakPinLaw", "expected", "(I)Z"⟩ : MethodName) method_2_code 1 (some .boolean) :: ws) ({ frames := 0, cells := 0, slots := 0, locals := 0 } : Room)) (fun a U => a = #[(.int p1)] ∧ Z.Warmed39 U.vm ∧ U.heap = h0) (fun _ _ _ _ _ => True) (fun _ U o U' => ∃ v L, o = .returned v ∧ Q2 Z p1 h0 n0 v U'.heap L ∧ FrameEnd U o U' L ({ frames := 0, cells := 0, slots := 0, locals := 0 } : Room).cells ({ frames := 0, cells := 0, slots := 0, locals := 0 } : Room).slots) := by
  refine MetFree.of_bodySF (plainFor_of_name pn_2) hisR ?_
  intro p e s m args below meth c s₁ Bd hml0 hP hK
  obtain ⟨rfl, hZ, hh⟩ := hP
  have hx := Bd.exec
  have hby := Bd.bytes
  have hml : c.maxLocals = 1 := hml0
  have hown : s.vm.findClass "com/example/svarbud/svarbud/message/TextLinesIsLineBreakPinLaw" = some m.cls := findClass_of_methodNamed Bd.named
  have hnm := (name_of_methodNamed Bd.named Bd.method).1
  have X0 : Stand p l e ({ frames := 0, cells := 0, slots := 0, locals := 0 } : Room) s m #[(.int p1)] below meth c s₁ [] 0 0 := Stand.of_body Bd
  have e0 : s₁.heap = h0 := by rw [← hh, Bd.state]; rfl
  have N0 := Fr.nil n0
  have pre0 : Goes p e below s₁ (entryFrame m #[(.int p1)] 1) s₁ (mkF m 0 #[.val (.int p1)] []) := fun t k => castTop (ef_2 m p1) k
  have pre10 : Goes p e below s₁ (entryFrame m #[(.int p1)] 1) s₁ (mkF m 3 #[.val (.int p1)] [(.int (10 : Int32)), (.int p1)]) := fun t k => pre0 t (by
      refine XS.iloadN X0.here hx rfl (hb hby d2_0) rfl ?_
      show Steps p.tables e below (s₁.setTop (mkF m 1 #[.val (.int p1)] [(.int p1)])) _
      refine XS.bipush X0.here hx rfl (hb hby d2_1) ?_
      show Steps p.tables e below (s₁.setTop (mkF m 3 #[.val (.int p1)] [(.int (10 : Int32)), (.int p1)])) _
      exact k)
  by_cases hc11 : p1 < (10 : Int32)
  · skip
    have pre12 : Goes p e below s₁ (entryFrame m #[(.int p1)] 1) s₁ (mkF m 18 #[.val (.int p1)] [(.int (133 : Int32)), (.int p1)]) := fun t k => pre10 t (by
        refine XS.icmpYes X0.here hx rfl (pc0 := 3) (pc' := 14) rfl (hb hby d2_3) rfl (tlt hc11).1 (by decide) (by decide) ?_
        show Steps p.tables e below (s₁.setTop (mkF m 14 #[.val (.int p1)] [])) _
        refine XS.iloadN X0.here hx rfl (hb hby d2_14) rfl ?_
        show Steps p.tables e below (s₁.setTop (mkF m 15 #[.val (.int p1)] [(.int p1)])) _
        refine XS.sipush X0.here hx rfl (hb hby d2_15) ?_
        show Steps p.tables e below (s₁.setTop (mkF m 18 #[.val (.int p1)] [(.int (133 : Int32)), (.int p1)])) _
        exact k)
    by_cases hc13 : p1 = (133 : Int32)
    · skip
      have pre14 : Goes p e below s₁ (entryFrame m #[(.int p1)] 1) s₁ (mkF m 22 #[.val (.int p1)] [(.int (1 : Int32))]) := fun t k => pre12 t (by
          refine XS.icmpNo X0.here hx rfl (hb hby d2_18) rfl (teq hc13).2 ?_
          show Steps p.tables e below (s₁.setTop (mkF m 21 #[.val (.int p1)] [])) _
          refine XS.iconst X0.here hx rfl (hb hby d2_21) ?_
          show Steps p.tables e below (s₁.setTop (mkF m 22 #[.val (.int p1)] [(.int (1 : Int32))])) _
          exact k)
      obtain ⟨fs, hr, hrun, hended, hW, hsame⟩ := X0.leave (v := some (.int (1 : Int32))) (fun h => by rw [Bd.returns] at h; cases h)
      refine ⟨_, _, pre14 _ (retN X0 hx (t := .boolean) Bd.returns (by simp) (hb hby d2_22) hr), hrun, hended, _, _, rfl, ?_, ⟨_, rfl⟩, hW, hsame.mono (by decide) (by decide)⟩
      show Q2 Z p1 h0 n0 _ s₁.heap _
      rw [e0]
      exact ⟨by simp [fE, hc11, hc13], N0, rfl⟩
    · skip
      have pre15 : Goes p e below s₁ (entryFrame m #[(.int p1)] 1) s₁ (mkF m 27 #[.val (.int p1)] [(.int (8232 : Int32)), (.int p1)]) := fun t k => pre12 t (by
          refine XS.icmpYes X0.here hx rfl (pc0 := 18) (pc' := 23) rfl (hb hby d2_18) rfl (feq hc13).2 (by decide) (by decide) ?_
          show Steps p.tables e below (s₁.setTop (mkF m 23 #[.val (.int p1)] [])) _
          refine XS.iloadN X0.here hx rfl (hb hby d2_23) rfl ?_
          show Steps p.tables e below (s₁.setTop (mkF m 24 #[.val (.int p1)] [(.int p1)])) _
          refine XS.sipush X0.here hx rfl (hb hby d2_24) ?_
          show Steps p.tables e below (s₁.setTop (mkF m 27 #[.val (.int p1)] [(.int (8232 : Int32)), (.int p1)])) _
          exact k)
      by_cases hc16 : p1 < (8232 : Int32)
      · skip
        have pre17 : Goes p e below s₁ (entryFrame m #[(.int p1)] 1) s₁ (mkF m 42 #[.val (.int p1)] [(.int (0 : Int32))]) := fun t k => pre15 t (by
            refine XS.icmpYes X0.here hx rfl (pc0 := 27) (pc' := 41) rfl (hb hby d2_27) rfl (tlt hc16).1 (by decide) (by decide) ?_
            show Steps p.tables e below (s₁.setTop (mkF m 41 #[.val (.int p1)] [])) _
            refine XS.iconst X0.here hx rfl (hb hby d2_41) ?_
            show Steps p.tables e below (s₁.setTop (mkF m 42 #[.val (.int p1)] [(.int (0 : Int32))])) _
            exact k)
        obtain ⟨fs, hr, hrun, hended, hW, hsame⟩ := X0.leave (v := some (.int (0 : Int32))) (fun h => by rw [Bd.returns] at h; cases h)
        refine ⟨_, _, pre17 _ (retN X0 hx (t := .boolean) Bd.returns (by simp) (hb hby d2_42) hr), hrun, hended, _, _, rfl, ?_, ⟨_, rfl⟩, hW, hsame.mono (by decide) (by decide)⟩
        show Q2 Z p1 h0 n0 _ s₁.heap _
        rw [e0]
        exact ⟨by simp [fE, hc11, hc13, hc16], N0, rfl⟩
      · skip
        have pre18 : Goes p e below s₁ (entryFrame m #[(.int p1)] 1) s₁ (mkF m 34 #[.val (.int p1)] [(.int (8233 : Int32)), (.int p1)]) := fun t k => pre15 t (by
            refine XS.icmpNo X0.here hx rfl (hb hby d2_27) rfl (flt hc16).1 ?_
            show Steps p.tables e below (s₁.setTop (mkF m 30 #[.val (.int p1)] [])) _
            refine XS.iloadN X0.here hx rfl (hb hby d2_30) rfl ?_
            show Steps p.tables e below (s₁.setTop (mkF m 31 #[.val (.int p1)] [(.int p1)])) _
            refine XS.sipush X0.here hx rfl (hb hby d2_31) ?_
            show Steps p.tables e below (s₁.setTop (mkF m 34 #[.val (.int p1)] [(.int (8233 : Int32)), (.int p1)])) _
            exact k)
        by_cases hc19 : (8233 : Int32) < p1
        · skip
          have pre20 : Goes p e below s₁ (entryFrame m #[(.int p1)] 1) s₁ (mkF m 42 #[.val (.int p1)] [(.int (0 : Int32))]) := fun t k => pre18 t (by
              refine XS.icmpYes X0.here hx rfl (pc0 := 34) (pc' := 41) rfl (hb hby d2_34) rfl (tlt hc19).2.2.1 (by decide) (by decide) ?_
              show Steps p.tables e below (s₁.setTop (mkF m 41 #[.val (.int p1)] [])) _
              refine XS.iconst X0.here hx rfl (hb hby d2_41) ?_
              show Steps p.tables e below (s₁.setTop (mkF m 42 #[.val (.int p1)] [(.int (0 : Int32))])) _
              exact k)
          obtain ⟨fs, hr, hrun, hended, hW, hsame⟩ := X0.leave (v := some (.int (0 : Int32))) (fun h => by rw [Bd.returns] at h; cases h)
          refine ⟨_, _, pre20 _ (retN X0 hx (t := .boolean) Bd.returns (by simp) (hb hby d2_42) hr), hrun, hended, _, _, rfl, ?_, ⟨_, rfl⟩, hW, hsame.mono (by decide) (by decide)⟩
          show Q2 Z p1 h0 n0 _ s₁.heap _
          rw [e0]
          exact ⟨by simp [fE, hc11, hc13, hc16, hc19], N0, rfl⟩
        · skip
          have pre21 : Goes p e below s₁ (entryFrame m #[(.int p1)] 1) s₁ (mkF m 42 #[.val (.int p1)] [(.int (1 : Int32))]) := fun t k => pre18 t (by
              refine XS.icmpNo X0.here hx rfl (hb hby d2_34) rfl (flt hc19).2.2.1 ?_
              show Steps p.tables e below (s₁.setTop (mkF m 37 #[.val (.int p1)] [])) _
              refine XS.iconst X0.here hx rfl (hb hby d2_37) ?_
              show Steps p.tables e below (s₁.setTop (mkF m 38 #[.val (.int p1)] [(.int (1 : Int32))])) _
              refine XS.goto X0.here hx rfl (pc0 := 38) (pc' := 42) rfl (hb hby d2_38) (by decide) (by decide) ?_
              show Steps p.tables e below (s₁.setTop (mkF m 42 #[.val (.int p1)] [(.int (1 : Int32))])) _
              exact k)
          obtain ⟨fs, hr, hrun, hended, hW, hsame⟩ := X0.leave (v := some (.int (1 : Int32))) (fun h => by rw [Bd.returns] at h; cases h)
          refine ⟨_, _, pre21 _ (retN X0 hx (t := .boolean) Bd.returns (by simp) (hb hby d2_42) hr), hrun, hended, _, _, rfl, ?_, ⟨_, rfl⟩, hW, hsame.mono (by decide) (by decide)⟩
          show Q2 Z p1 h0 n0 _ s₁.heap _
          rw [e0]
          exact ⟨by simp [fE, hc11, hc13, hc16, hc19], N0, rfl⟩
  · skip
    have pre22 : Goes p e below s₁ (entryFrame m #[(.int p1)] 1) s₁ (mkF m 9 #[.val (.int p1)] [(.int (13 : Int32)), (.int p1)]) := fun t k => pre10 t (by
        refine XS.icmpNo X0.here hx rfl (hb hby d2_3) rfl (flt hc11).1 ?_
        show Steps p.tables e below (s₁.setTop (mkF m 6 #[.val (.int p1)] [])) _
        refine XS.iloadN X0.here hx rfl (hb hby d2_6) rfl ?_
        show Steps p.tables e below (s₁.setTop (mkF m 7 #[.val (.int p1)] [(.int p1)])) _
        refine XS.bipush X0.here hx rfl (hb hby d2_7) ?_
        show Steps p.tables e below (s₁.setTop (mkF m 9 #[.val (.int p1)] [(.int (13 : Int32)), (.int p1)])) _
        exact k)
    by_cases hc23 : (13 : Int32) < p1
    · skip
      have pre24 : Goes p e below s₁ (entryFrame m #[(.int p1)] 1) s₁ (mkF m 18 #[.val (.int p1)] [(.int (133 : Int32)), (.int p1)]) := fun t k => pre22 t (by
          refine XS.icmpYes X0.here hx rfl (pc0 := 9) (pc' := 14) rfl (hb hby d2_9) rfl (tlt hc23).2.2.1 (by decide) (by decide) ?_
          show Steps p.tables e below (s₁.setTop (mkF m 14 #[.val (.int p1)] [])) _
          refine XS.iloadN X0.here hx rfl (hb hby d2_14) rfl ?_
          show Steps p.tables e below (s₁.setTop (mkF m 15 #[.val (.int p1)] [(.int p1)])) _
          refine XS.sipush X0.here hx rfl (hb hby d2_15) ?_
          show Steps p.tables e below (s₁.setTop (mkF m 18 #[.val (.int p1)] [(.int (133 : Int32)), (.int p1)])) _
          exact k)
      by_cases hc25 : p1 = (133 : Int32)
      · skip
        have pre26 : Goes p e below s₁ (entryFrame m #[(.int p1)] 1) s₁ (mkF m 22 #[.val (.int p1)] [(.int (1 : Int32))]) := fun t k => pre24 t (by
            refine XS.icmpNo X0.here hx rfl (hb hby d2_18) rfl (teq hc25).2 ?_
            show Steps p.tables e below (s₁.setTop (mkF m 21 #[.val (.int p1)] [])) _
            refine XS.iconst X0.here hx rfl (hb hby d2_21) ?_
            show Steps p.tables e below (s₁.setTop (mkF m 22 #[.val (.int p1)] [(.int (1 : Int32))])) _
            exact k)
        obtain ⟨fs, hr, hrun, hended, hW, hsame⟩ := X0.leave (v := some (.int (1 : Int32))) (fun h => by rw [Bd.returns] at h; cases h)
        refine ⟨_, _, pre26 _ (retN X0 hx (t := .boolean) Bd.returns (by simp) (hb hby d2_22) hr), hrun, hended, _, _, rfl, ?_, ⟨_, rfl⟩, hW, hsame.mono (by decide) (by decide)⟩
        show Q2 Z p1 h0 n0 _ s₁.heap _
        rw [e0]
        exact ⟨by simp [fE, hc11, hc23, hc25], N0, rfl⟩
      · skip
        have pre27 : Goes p e below s₁ (entryFrame m #[(.int p1)] 1) s₁ (mkF m 27 #[.val (.int p1)] [(.int (8232 : Int32)), (.int p1)]) := fun t k => pre24 t (by
            refine XS.icmpYes X0.here hx rfl (pc0 := 18) (pc' := 23) rfl (hb hby d2_18) rfl (feq hc25).2 (by decide) (by decide) ?_
            show Steps p.tables e below (s₁.setTop (mkF m 23 #[.val (.int p1)] [])) _
            refine XS.iloadN X0.here hx rfl (hb hby d2_23) rfl ?_
            show Steps p.tables e below (s₁.setTop (mkF m 24 #[.val (.int p1)] [(.int p1)])) _
            refine XS.sipush X0.here hx rfl (hb hby d2_24) ?_
            show Steps p.tables e below (s₁.setTop (mkF m 27 #[.val (.int p1)] [(.int (8232 : Int32)), (.int p1)])) _
            exact k)
        by_cases hc28 : p1 < (8232 : Int32)
        · skip
          have pre29 : Goes p e below s₁ (entryFrame m #[(.int p1)] 1) s₁ (mkF m 42 #[.val (.int p1)] [(.int (0 : Int32))]) := fun t k => pre27 t (by
              refine XS.icmpYes X0.here hx rfl (pc0 := 27) (pc' := 41) rfl (hb hby d2_27) rfl (tlt hc28).1 (by decide) (by decide) ?_
              show Steps p.tables e below (s₁.setTop (mkF m 41 #[.val (.int p1)] [])) _
              refine XS.iconst X0.here hx rfl (hb hby d2_41) ?_
              show Steps p.tables e below (s₁.setTop (mkF m 42 #[.val (.int p1)] [(.int (0 : Int32))])) _
              exact k)
          obtain ⟨fs, hr, hrun, hended, hW, hsame⟩ := X0.leave (v := some (.int (0 : Int32))) (fun h => by rw [Bd.returns] at h; cases h)
          refine ⟨_, _, pre29 _ (retN X0 hx (t := .boolean) Bd.returns (by simp) (hb hby d2_42) hr), hrun, hended, _, _, rfl, ?_, ⟨_, rfl⟩, hW, hsame.mono (by decide) (by decide)⟩
          show Q2 Z p1 h0 n0 _ s₁.heap _
          rw [e0]
          exact ⟨by simp [fE, hc11, hc23, hc25, hc28], N0, rfl⟩
        · skip
          have pre30 : Goes p e below s₁ (entryFrame m #[(.int p1)] 1) s₁ (mkF m 34 #[.val (.int p1)] [(.int (8233 : Int32)), (.int p1)]) := fun t k => pre27 t (by
              refine XS.icmpNo X0.here hx rfl (hb hby d2_27) rfl (flt hc28).1 ?_
              show Steps p.tables e below (s₁.setTop (mkF m 30 #[.val (.int p1)] [])) _
              refine XS.iloadN X0.here hx rfl (hb hby d2_30) rfl ?_
              show Steps p.tables e below (s₁.setTop (mkF m 31 #[.val (.int p1)] [(.int p1)])) _
              refine XS.sipush X0.here hx rfl (hb hby d2_31) ?_
              show Steps p.tables e below (s₁.setTop (mkF m 34 #[.val (.int p1)] [(.int (8233 : Int32)), (.int p1)])) _
              exact k)
          by_cases hc31 : (8233 : Int32) < p1
          · skip
            have pre32 : Goes p e below s₁ (entryFrame m #[(.int p1)] 1) s₁ (mkF m 42 #[.val (.int p1)] [(.int (0 : Int32))]) := fun t k => pre30 t (by
                refine XS.icmpYes X0.here hx rfl (pc0 := 34) (pc' := 41) rfl (hb hby d2_34) rfl (tlt hc31).2.2.1 (by decide) (by decide) ?_
                show Steps p.tables e below (s₁.setTop (mkF m 41 #[.val (.int p1)] [])) _
                refine XS.iconst X0.here hx rfl (hb hby d2_41) ?_
                show Steps p.tables e below (s₁.setTop (mkF m 42 #[.val (.int p1)] [(.int (0 : Int32))])) _
                exact k)
            obtain ⟨fs, hr, hrun, hended, hW, hsame⟩ := X0.leave (v := some (.int (0 : Int32))) (fun h => by rw [Bd.returns] at h; cases h)
            refine ⟨_, _, pre32 _ (retN X0 hx (t := .boolean) Bd.returns (by simp) (hb hby d2_42) hr), hrun, hended, _, _, rfl, ?_, ⟨_, rfl⟩, hW, hsame.mono (by decide) (by decide)⟩
            show Q2 Z p1 h0 n0 _ s₁.heap _
            rw [e0]
            exact ⟨by simp [fE, hc11, hc23, hc25, hc28, hc31], N0, rfl⟩
          · skip
            have pre33 : Goes p e below s₁ (entryFrame m #[(.int p1)] 1) s₁ (mkF m 42 #[.val (.int p1)] [(.int (1 : Int32))]) := fun t k => pre30 t (by
                refine XS.icmpNo X0.here hx rfl (hb hby d2_34) rfl (flt hc31).2.2.1 ?_
                show Steps p.tables e below (s₁.setTop (mkF m 37 #[.val (.int p1)] [])) _
                refine XS.iconst X0.here hx rfl (hb hby d2_37) ?_
                show Steps p.tables e below (s₁.setTop (mkF m 38 #[.val (.int p1)] [(.int (1 : Int32))])) _
                refine XS.goto X0.here hx rfl (pc0 := 38) (pc' := 42) rfl (hb hby d2_38) (by decide) (by decide) ?_
                show Steps p.tables e below (s₁.setTop (mkF m 42 #[.val (.int p1)] [(.int (1 : Int32))])) _
                exact k)
            obtain ⟨fs, hr, hrun, hended, hW, hsame⟩ := X0.leave (v := some (.int (1 : Int32))) (fun h => by rw [Bd.returns] at h; cases h)
            refine ⟨_, _, pre33 _ (retN X0 hx (t := .boolean) Bd.returns (by simp) (hb hby d2_42) hr), hrun, hended, _, _, rfl, ?_, ⟨_, rfl⟩, hW, hsame.mono (by decide) (by decide)⟩
            show Q2 Z p1 h0 n0 _ s₁.heap _
            rw [e0]
            exact ⟨by simp [fE, hc11, hc23, hc25, hc28, hc31], N0, rfl⟩
    · skip
      have pre34 : Goes p e below s₁ (entryFrame m #[(.int p1)] 1) s₁ (mkF m 13 #[.val (.int p1)] [(.int (1 : Int32))]) := fun t k => pre22 t (by
          refine XS.icmpNo X0.here hx rfl (hb hby d2_9) rfl (flt hc23).2.2.1 ?_
          show Steps p.tables e below (s₁.setTop (mkF m 12 #[.val (.int p1)] [])) _
          refine XS.iconst X0.here hx rfl (hb hby d2_12) ?_
          show Steps p.tables e below (s₁.setTop (mkF m 13 #[.val (.int p1)] [(.int (1 : Int32))])) _
          exact k)
      obtain ⟨fs, hr, hrun, hended, hW, hsame⟩ := X0.leave (v := some (.int (1 : Int32))) (fun h => by rw [Bd.returns] at h; cases h)
      refine ⟨_, _, pre34 _ (retN X0 hx (t := .boolean) Bd.returns (by simp) (hb hby d2_13) hr), hrun, hended, _, _, rfl, ?_, ⟨_, rfl⟩, hW, hsame.mono (by decide) (by decide)⟩
      show Q2 Z p1 h0 n0 _ s₁.heap _
      rw [e0]
      exact ⟨by simp [fE, hc11, hc23], N0, rfl⟩
theorem own_char (x : Int32) : x.toUInt32.toUInt16.toUInt32.toInt32 = (x &&& (65535 : Int32)) := by
  have h1 := c_i2c x
  have h2 := c_mask x 65535 16 (by decide) (by decide)
  refine Int32.toInt_inj.mp ?_
  omega
theorem own_same (c : Int32) : fL c = fE c := by
  simp only [fL, fE, Int32.lt_iff_toInt_lt, ← Int32.toInt_inj]
  have e1 : (10 : Int32).toInt = 10 := rfl
  have e2 : (11 : Int32).toInt = 11 := rfl
  have e3 : (12 : Int32).toInt = 12 := rfl
  have e4 : (13 : Int32).toInt = 13 := rfl
  have e5 : (133 : Int32).toInt = 133 := rfl
  have e6 : (8232 : Int32).toInt = 8232 := rfl
  have e7 : (8233 : Int32).toInt = 8233 := rfl
  have e8 : (1 : Int32).toInt = 1 := rfl
  have e9 : (0 : Int32).toInt = 0 := rfl
  rw [e1, e2, e3, e4, e5, e6, e7]
  generalize c.toInt = z
  by_cases k1 : z = 10
  · subst k1; decide
  by_cases k2 : z = 11
  · subst k2; decide
  by_cases k3 : z = 12
  · subst k3; decide
  by_cases k4 : z = 13
  · subst k4; decide
  by_cases k5 : z = 133
  · subst k5; decide
  by_cases k6 : z = 8232
  · subst k6; decide
  by_cases k7 : z = 8233
  · subst k7; decide
  have m1 : ¬ (¬ z < 10 ∧ ¬ 13 < z) := by omega
  have m2 : ¬ (¬ z < 8232 ∧ ¬ 8233 < z) := by omega
  simp only [k1, k2, k3, k4, k5, k6, k7, m1, m2, if_false]
def Q0 (Z : State) (p1 : Int32) (h0 : Heap) (n0 : Nat) (v : Option Value) (h : Heap) (L : List Loc) : Prop := v = some (.int (1 : Int32)) ∧ Fr n0 L
theorem pn_0 : plainName "com/example/svarbud/svarbud/message/TextLinesIsLineBreakPinLaw" = true := by first | (simp [plainName, overriddenIn]; done) | decide +kernel
theorem ef_0 (m : MethodId) (p1 : Int32) : entryFrame m #[(.int p1)] maxLocals = mkF m 0 #[.val (.int p1), .unset, .unset] [] := by first | (simp [entryFrame, mkF, argsToLocals, Value.category, maxLocals]; done) | rfl
set_option maxRecDepth 65536 in
set_option maxHeartbeats 40000000 in
theorem rm0 (l : Launch) (Z : State) (a0 : Array Value) (hw : ∀ d ∈ tables_1, d.before a0 Z = true) (ws : List Jvm.Cond) (p1 : Int32)  (h0 : Heap) (n0 : Nat) (Z0 : n0 ≤ h0.size)  :
    MetFree l x (head1 (Jvm.Cond.code x code maxLocals ret :: ws) room_1) (fun a U => a = #[(.int p1)] ∧ Z.Warmed39 U.vm ∧ U.heap = h0) (fun _ _ _ _ _ => True) (fun _ U o U' => ∃ v L, o = .returned v ∧ Q0 Z p1 h0 n0 v U'.heap L ∧ FrameEnd U o U' L room_1.cells room_1.slots) := by
  refine MetFree.of_bodySF (plainFor_of_name pn_0) hisR ?_
  intro p e s m args below meth c s₁ Bd hml0 hP hK
  obtain ⟨rfl, hZ, hh⟩ := hP
  have hx := Bd.exec
  have hby := Bd.bytes
  have hml : c.maxLocals = 3 := hml0
  have hown : s.vm.findClass "com/example/svarbud/svarbud/message/TextLinesIsLineBreakPinLaw" = some m.cls := findClass_of_methodNamed Bd.named
  have hnm := (name_of_methodNamed Bd.named Bd.method).1
  have X0 : Stand p l e room_1 s m #[(.int p1)] below meth c s₁ [] 0 0 := Stand.of_body Bd
  have e0 : s₁.heap = h0 := by rw [← hh, Bd.state]; rfl
  have N0 := Fr.nil n0
  have pre0 : Goes p e below s₁ (entryFrame m #[(.int p1)] maxLocals) s₁ (mkF m 0 #[.val (.int p1), .unset, .unset] []) := fun t k => castTop (ef_0 m p1) k
  have pre35 : Goes p e below s₁ (entryFrame m #[(.int p1)] maxLocals) s₁ (mkF m 9 #[.val (.int p1), .val (.int (p1.toUInt32.toUInt16.toUInt32.toInt32)), .val (.int (p1 &&& (65535 : Int32)))] [(.int (p1.toUInt32.toUInt16.toUInt32.toInt32))]) := fun t k => pre0 t (by
      refine XS.iloadN X0.here hx rfl (hb hby at_0) rfl ?_
      show Steps p.tables e below (s₁.setTop (mkF m 1 #[.val (.int p1), .unset, .unset] [(.int p1)])) _
      refine XS.i2c X0.here hx rfl (hb hby at_1) rfl ?_
      show Steps p.tables e below (s₁.setTop (mkF m 2 #[.val (.int p1), .unset, .unset] [(.int (p1.toUInt32.toUInt16.toUInt32.toInt32))])) _
      refine XS.istoreN X0.here hx rfl (hb hby at_2) rfl (l' := #[.val (.int p1), .val (.int (p1.toUInt32.toUInt16.toUInt32.toInt32)), .unset]) rfl ?_
      show Steps p.tables e below (s₁.setTop (mkF m 3 #[.val (.int p1), .val (.int (p1.toUInt32.toUInt16.toUInt32.toInt32)), .unset] [])) _
      refine XS.iloadN X0.here hx rfl (hb hby at_3) rfl ?_
      show Steps p.tables e below (s₁.setTop (mkF m 4 #[.val (.int p1), .val (.int (p1.toUInt32.toUInt16.toUInt32.toInt32)), .unset] [(.int p1)])) _
      refine X0.ldcInt hx hown (mvT hZ (hw _ (List.mem_of_getElem? (i := 0) rfl))) (g := (mkF m 4 #[.val (.int p1), .val (.int (p1.toUInt32.toUInt16.toUInt32.toInt32)), .unset] [(.int p1)])) rfl (hb hby at_4) _ ?_
      show Steps p.tables e below (s₁.setTop (mkF m 6 #[.val (.int p1), .val (.int (p1.toUInt32.toUInt16.toUInt32.toInt32)), .unset] [(.int (65535 : Int32)), (.int p1)])) _
      refine XS.iand X0.here hx rfl (hb hby at_6) rfl ?_
      show Steps p.tables e below (s₁.setTop (mkF m 7 #[.val (.int p1), .val (.int (p1.toUInt32.toUInt16.toUInt32.toInt32)), .unset] [(.int (p1 &&& (65535 : Int32)))])) _
      refine XS.istoreN X0.here hx rfl (hb hby at_7) rfl (l' := #[.val (.int p1), .val (.int (p1.toUInt32.toUInt16.toUInt32.toInt32)), .val (.int (p1 &&& (65535 : Int32)))]) rfl ?_
      show Steps p.tables e below (s₁.setTop (mkF m 8 #[.val (.int p1), .val (.int (p1.toUInt32.toUInt16.toUInt32.toInt32)), .val (.int (p1 &&& (65535 : Int32)))] [])) _
      refine XS.iloadN X0.here hx rfl (hb hby at_8) rfl ?_
      show Steps p.tables e below (s₁.setTop (mkF m 9 #[.val (.int p1), .val (.int (p1.toUInt32.toUInt16.toUInt32.toInt32)), .val (.int (p1 &&& (65535 : Int32)))] [(.int (p1.toUInt32.toUInt16.toUInt32.toInt32))])) _
      exact k)
  obtain ⟨_, _, ⟨T36, L36, k36, n36⟩, -, X36, ⟨Lc36, hQ36, l36, y36, z36⟩, st36⟩ := Jvm.LawKit.callS X0 hx (y := (⟨"com/example/svarbud/svarbud/message/TextLines", "isLineBreak", "(C)Z"⟩ : MethodName)) hown (mvT hZ (hw _ (List.mem_of_getElem? (i := 1) rfl))) (mvT hZ (hw _ (List.mem_of_getElem? (i := 2) rfl))) (mvT hZ (hw _ (List.mem_of_getElem? (i := 3) rfl))) (mvT hZ (hw _ (List.mem_of_getElem? (i := 4) rfl))) (by decide) (backOf (W := 0) (rm1 l Z a0 hw [] (p1.toUInt32.toUInt16.toUInt32.toInt32) h0 n0 Z0) hZ (hw _ (List.mem_of_getElem? (i := 4) rfl)) (hw _ (List.mem_of_getElem? (i := 3) rfl)) (by decide) (by decide)) (g := (mkF m 9 #[.val (.int p1), .val (.int (p1.toUInt32.toUInt16.toUInt32.toInt32)), .val (.int (p1 &&& (65535 : Int32)))] [(.int (p1.toUInt32.toUInt16.toUInt32.toInt32))])) rfl (by rw [hml]; rfl) (argsL := [(.int (p1.toUInt32.toUInt16.toUInt32.toInt32))]) (rest := []) (lenOf pd_0 rfl) rfl (by show 2 * 0 + _ ≤ _; exact Nat.le_of_eq rfl) (hb hby at_9) (fun _ _ => ⟨rfl, e0, (by decide : 0 + 0 ≤ _), (by decide : 0 + 0 ≤ _)⟩)
  dsimp only [Pt.U, Pt.locs, Pt.cells, Pt.slots] at X36 l36 y36 z36 st36 hQ36
  subst l36 y36 z36
  obtain ⟨rfl, N36q, eh36⟩ := hQ36
  have N36 := Fr.app N0 N36q
  have pre36 : Goes p e below s₁ (entryFrame m #[(.int p1)] maxLocals) T36 (mkF m 12 #[.val (.int p1), .val (.int (p1.toUInt32.toUInt16.toUInt32.toInt32)), .val (.int (p1 &&& (65535 : Int32)))] [(.int (fL (p1.toUInt32.toUInt16.toUInt32.toInt32)))]) := fun t k => pre35 t (st36 _ k)
  have pre37 : Goes p e below s₁ (entryFrame m #[(.int p1)] maxLocals) T36 (mkF m 13 #[.val (.int p1), .val (.int (p1.toUInt32.toUInt16.toUInt32.toInt32)), .val (.int (p1 &&& (65535 : Int32)))] [(.int (p1 &&& (65535 : Int32))), (.int (fL (p1.toUInt32.toUInt16.toUInt32.toInt32)))]) := fun t k => pre36 t (by
      refine XS.iloadN X36.here hx rfl (hb hby at_12) rfl ?_
      show Steps p.tables e below (T36.setTop (mkF m 13 #[.val (.int p1), .val (.int (p1.toUInt32.toUInt16.toUInt32.toInt32)), .val (.int (p1 &&& (65535 : Int32)))] [(.int (p1 &&& (65535 : Int32))), (.int (fL (p1.toUInt32.toUInt16.toUInt32.toInt32)))])) _
      exact k)
  obtain ⟨_, _, ⟨T38, L38, k38, n38⟩, -, X38, ⟨Lc38, hQ38, l38, y38, z38⟩, st38⟩ := Jvm.LawKit.callS X36 hx (y := (⟨"com/example/svarbud/svarbud/message/TextLinesIsLineBreakPinLaw", "expected", "(I)Z"⟩ : MethodName)) hown (mvT hZ (hw _ (List.mem_of_getElem? (i := 5) rfl))) (mvT hZ (hw _ (List.mem_of_getElem? (i := 6) rfl))) (mvT hZ (hw _ (List.mem_of_getElem? (i := 7) rfl))) (mvT hZ (hw _ (List.mem_of_getElem? (i := 8) rfl))) (by decide) (backOf (W := 1) (rm2 l Z a0 hw [] (p1 &&& (65535 : Int32)) h0 n0 Z0) hZ (hw _ (List.mem_of_getElem? (i := 8) rfl)) (hw _ (List.mem_of_getElem? (i := 7) rfl)) (by decide) (by decide)) (g := (mkF m 13 #[.val (.int p1), .val (.int (p1.toUInt32.toUInt16.toUInt32.toInt32)), .val (.int (p1 &&& (65535 : Int32)))] [(.int (p1 &&& (65535 : Int32))), (.int (fL (p1.toUInt32.toUInt16.toUInt32.toInt32)))])) rfl (by rw [hml]; rfl) (argsL := [(.int (p1 &&& (65535 : Int32)))]) (rest := [(.int (fL (p1.toUInt32.toUInt16.toUInt32.toInt32)))]) (lenOf pd_1 rfl) rfl (by show 2 * 0 + _ ≤ _; exact Nat.le_of_eq rfl) (hb hby at_13) (fun _ _ => ⟨rfl, eh36, (by decide : 0 + 0 ≤ _), (by decide : 0 + 0 ≤ _)⟩)
  dsimp only [Pt.U, Pt.locs, Pt.cells, Pt.slots] at X38 l38 y38 z38 st38 hQ38
  subst l38 y38 z38
  obtain ⟨rfl, N38q, eh38⟩ := hQ38
  have N38 := Fr.app N36 N38q
  have pre38 : Goes p e below s₁ (entryFrame m #[(.int p1)] maxLocals) T38 (mkF m 16 #[.val (.int p1), .val (.int (p1.toUInt32.toUInt16.toUInt32.toInt32)), .val (.int (p1 &&& (65535 : Int32)))] [(.int (fE (p1 &&& (65535 : Int32)))), (.int (fL (p1.toUInt32.toUInt16.toUInt32.toInt32)))]) := fun t k => pre37 t (st38 _ k)
  have pre39 : Goes p e below s₁ (entryFrame m #[(.int p1)] maxLocals) T38 (mkF m 24 #[.val (.int p1), .val (.int (p1.toUInt32.toUInt16.toUInt32.toInt32)), .val (.int (p1 &&& (65535 : Int32)))] [(.int (1 : Int32))]) := fun t k => pre38 t (by
      refine XS.icmpNo X38.here hx rfl (hb hby at_16) rfl (teq (show (fL (p1.toUInt32.toUInt16.toUInt32.toInt32)) = (fE (p1 &&& (65535 : Int32))) from ((congrArg fL (own_char p1)).trans (own_same _)))).2 ?_
      show Steps p.tables e below (T38.setTop (mkF m 19 #[.val (.int p1), .val (.int (p1.toUInt32.toUInt16.toUInt32.toInt32)), .val (.int (p1 &&& (65535 : Int32)))] [])) _
      refine XS.iconst X38.here hx rfl (hb hby at_19) ?_
      show Steps p.tables e below (T38.setTop (mkF m 20 #[.val (.int p1), .val (.int (p1.toUInt32.toUInt16.toUInt32.toInt32)), .val (.int (p1 &&& (65535 : Int32)))] [(.int (1 : Int32))])) _
      refine XS.goto X38.here hx rfl (pc0 := 20) (pc' := 24) rfl (hb hby at_20) (by decide) (by decide) ?_
      show Steps p.tables e below (T38.setTop (mkF m 24 #[.val (.int p1), .val (.int (p1.toUInt32.toUInt16.toUInt32.toInt32)), .val (.int (p1 &&& (65535 : Int32)))] [(.int (1 : Int32))])) _
      exact k)
  obtain ⟨fs, hr, hrun, hended, hW, hsame⟩ := X38.leave (v := some (.int (1 : Int32))) (fun h => by rw [Bd.returns] at h; cases h)
  refine ⟨_, _, pre39 _ (retN X38 hx (t := .boolean) Bd.returns (by simp) (hb hby at_24) hr), hrun, hended, _, _, rfl, ?_, ⟨_, rfl⟩, hW, hsame.mono (by decide) (by decide)⟩
  show Q0 Z p1 h0 n0 _ T38.heap _
  exact ⟨rfl, N38⟩
set_option maxRecDepth 65536 in
set_option maxHeartbeats 40000000 in
theorem comes_1 {Post : Tables → Env → Array Value → State → Outcome → State → Prop} (hpost : ∀ tb e args s v u, (limb_1_1.after args s (.returned v) u = true ∧ limb_1_2.after args s (.returned v) u = true ∧ True) → FrameEnd s (.returned v) u (Jvm.fieldLocs frame_1_writes args s ++ Jvm.arrayLocs frame_1_arrays args s ++ Jvm.staticLocs frame_1_statics s) 0 0 → Post tb e args s (.returned v) u) :
    ArmFor flags0 classFile x code maxLocals ret World_1 tables_1 room_1 Calls_1 rest_1 Pre_1 Post := by
  intro l hfl _ _ p e ha hc hk s m args below hf hA hF happ hP
  obtain ⟨hcalls, hrest, hpre⟩ := hP
  obtain ⟨-, -, -, hnamed, -, -, -, hat⟩ := (Spec.applies_iff hf).mp happ
  obtain ⟨hg, hn⟩ := and_e (Cond.before_iff.mp (show (Jvm.Cond.and given_1 narrow_1).before args s = true from hpre))
  obtain ⟨g0, gr0⟩ := and_e hg
  obtain ⟨w0, rfl⟩ : ∃ w0 : Value, args = #[w0] := by
    have hs : args.size = 1 := by simpa [Cond.value, given_1] using g0
    obtain ⟨L⟩ := args
    match L, hs with
    | [w0], _ => exact ⟨w0, rfl⟩
  have hw := fun d (hd : d ∈ tables_1) => atoms_spec (ws := Jvm.Cond.code x code maxLocals ret :: tables_1) hat d (List.mem_cons_of_mem _ hd)
  obtain ⟨i0, ei0⟩ := is_v gr0
  obtain rfl : w0 = (.int i0) := Option.some.inj ei0
  obtain ⟨n, o, h1, h2, h3, _, L, rfl, ⟨rfl, N⟩, hq⟩ := rm0 l s _ hw tables_1 i0 s.heap s.heap.size (Nat.le_refl _)  p e ha hc hk s m _ below hf ((Spec.applies_iff_loose hf).mp happ).1 ⟨rfl, State.Warmed39.refl s, rfl⟩ trivial
  refine ⟨n, _, h1, h2, h3, hpost _ _ _ _ _ _ ⟨Cond.after_iff.mpr rfl, Cond.after_iff.mpr (eq_i res_at (Term.int_eval (1)) rfl), trivial⟩ ⟨hq.1, hq.2.1, (hq.2.2.sift fun y hy => Or.inr (N y hy)).mono (by decide) (by decide)⟩⟩
theorem main_1_1 : Claimed_1_1 := comes_1 fun _ _ _ _ _ _ h hF => ⟨h.1, hF⟩
theorem main_1_2 : Claimed_1_2 := comes_1 fun _ _ _ _ _ _ h hF => ⟨h.2.1, hF⟩
end Jvm.Pilot.@@N@@
namespace Jvm.Pilot.@@N@@
open Jvm Jvm.ClassFile Sem Op Lib Jvm.Free Jvm.Stand Jvm.Pilot.@@N@@.Jvm.D
/-! MADE BY PROGRAM (witnessworld.py) out of the Statement's table words and the real class files: 9 classes; the members and pool entries that the words name. The judged class is class 1, her method 2. -/
namespace start1
open Jvm.ClassFile
def u (s : String) : CpInfo := .utf8 (stringToUtf16 s)
/-- a pool by its gaps: so many unusable entries, then the entry; so many at the end -/
def gap : Nat → List CpInfo → List CpInfo
  | 0, r => r
  | n + 1, r => .unusable :: gap n r
def poolList (es : List (Nat × CpInfo)) (last : Nat) : List CpInfo := es.foldr (fun e r => gap e.1 (e.2 :: r)) (gap last [])
def pool (es : List (Nat × CpInfo)) (last : Nat) : Array CpInfo := ⟨poolList es last⟩
def fileOf (pool : Array CpInfo) (this : Nat) (attrs : Array Attribute := #[]) (ms : Array MethodInfo := #[]) (fl : Nat := 33) (sup : Nat := 0) (ifs : Array Nat := #[]) (fds : Array FieldInfo := #[]) : ClassFile where
  minorVersion := 0
  majorVersion := 65
  constantPool := pool
  accessFlags := fl
  thisClass := this
  superClass := sup
  interfaces := ifs
  fields := fds
  methods := ms
  attributes := attrs
def plain (name : String) (sup : Option ClassId) : Class where
  name := name
  kind := .ordinary
  loader := none
  accessFlags := 33
  super := sup
  interfaces := #[]
  cf := none
  fields := #[]
  methods := #[]
  instanceTypes := #[]
  staticTypes := #[]
  resolved := #[]
  callSites := []
  init := .initialized
  statics := none
  mirror := none

def pool0 : Array CpInfo := pool [(5, u "<init>"), (0, u "()V"), (1, .class_ 10), (1, u "java/lang/Object")] 113

def k0m0 : Method := { name := "<init>", desc := "()V", sig := { parameters := [], returnType := none }, accessFlags := 1, code := none }
/-- java/lang/Object -/
def k0 : Class := { plain "java/lang/Object" none with
  accessFlags := 33
  interfaces := #[]
  cf := some (fileOf pool0 8 #[] #[{ accessFlags := 1, nameIndex := 5, descriptorIndex := 6, attributes := #[] }] 33 0 #[] #[])
  fields := #[]
  methods := #[k0m0]
  instanceTypes := #[]
  staticTypes := #[]
  resolved := Array.replicate 124 none
  statics := none }

def pool1 : Array CpInfo := pool [(2, .class_ 4), (1, u "java/lang/Object"), (0, u "<init>"), (0, u "()V"), (0, .integer 65535), (0, .methodref 9 10), (0, .class_ 11), (0, .nameAndType 12 13), (0, u "com/example/svarbud/svarbud/message/TextLines"), (0, u "isLineBreak"), (0, u "(C)Z"), (0, .methodref 15 16), (0, .class_ 17), (0, .nameAndType 18 19), (0, u "com/example/svarbud/svarbud/message/TextLinesIsLineBreakPinLaw"), (0, u "expected"), (0, u "(I)Z"), (3, u "law")] 2

def k1m0 : Method := { name := "<init>", desc := "()V", sig := { parameters := [], returnType := none }, accessFlags := 2, code := none }
def k1c1 : Code := { maxStack := 2, maxLocals := 1, code := method_2_code, exceptionTable := #[], attributes := #[] }
def k1m1 : Method := { name := "expected", desc := "(I)Z", sig := { parameters := [.int], returnType := some .boolean }, accessFlags := 10, code := some k1c1 }
def k1c2 : Code := { maxStack := 2, maxLocals := 3, code := code, exceptionTable := #[], attributes := #[] }
def k1m2 : Method := { name := "law", desc := "(I)Z", sig := { parameters := [.int], returnType := some .boolean }, accessFlags := 9, code := some k1c2 }
/-- com/example/svarbud/svarbud/message/TextLinesIsLineBreakPinLaw -/
def k1 : Class := { plain "com/example/svarbud/svarbud/message/TextLinesIsLineBreakPinLaw" (some 0) with
  accessFlags := 49
  interfaces := #[]
  cf := some (fileOf pool1 15 #[] #[{ accessFlags := 2, nameIndex := 5, descriptorIndex := 6, attributes := #[] }, { accessFlags := 10, nameIndex := 18, descriptorIndex := 19, attributes := #[] }, { accessFlags := 9, nameIndex := 23, descriptorIndex := 19, attributes := #[] }] 49 2 #[] #[])
  fields := #[]
  methods := #[k1m0, k1m1, k1m2]
  instanceTypes := #[]
  staticTypes := #[]
  resolved := Array.replicate 26 none
  statics := none }

def pool2 : Array CpInfo := pool [(2, .class_ 4), (1, u "java/lang/Object"), (0, u "<init>"), (0, u "()V"), (4, .class_ 13), (1, u "com/example/svarbud/svarbud/message/TextLines"), (0, u "lines"), (0, u "Ljava/util/List;"), (5, u "line"), (0, u "Ljava/lang/StringBuilder;"), (21, u "holdsText"), (0, u "Z"), (2, u "isLineBreak"), (0, u "(C)Z")] 69

def k2m0 : Method := { name := "<init>", desc := "()V", sig := { parameters := [], returnType := none }, accessFlags := 0, code := none }
def k2c1 : Code := { maxStack := 1, maxLocals := 1, code := prog_100_method_8_code, exceptionTable := #[], attributes := #[] }
def k2m1 : Method := { name := "isLineBreak", desc := "(C)Z", sig := { parameters := [.char], returnType := some .boolean }, accessFlags := 9, code := some k2c1 }
/-- com/example/svarbud/svarbud/message/TextLines -/
def k2 : Class := { plain "com/example/svarbud/svarbud/message/TextLines" (some 0) with
  accessFlags := 49
  interfaces := #[]
  cf := some (fileOf pool2 11 #[] #[{ accessFlags := 0, nameIndex := 5, descriptorIndex := 6, attributes := #[] }, { accessFlags := 9, nameIndex := 48, descriptorIndex := 49, attributes := #[] }] 49 2 #[] #[{ accessFlags := 18, nameIndex := 14, descriptorIndex := 15, attributes := #[] }, { accessFlags := 18, nameIndex := 21, descriptorIndex := 22, attributes := #[] }, { accessFlags := 2, nameIndex := 44, descriptorIndex := 45, attributes := #[] }])
  fields := #[{ name := "lines", type := (.object "java/util/List"), accessFlags := 18, slot := 0, constantValue := 0 }, { name := "line", type := (.object "java/lang/StringBuilder"), accessFlags := 18, slot := 1, constantValue := 0 }, { name := "holdsText", type := .boolean, accessFlags := 2, slot := 2, constantValue := 0 }]
  methods := #[k2m0, k2m1]
  instanceTypes := #[(.object "java/util/List"), (.object "java/lang/StringBuilder"), .boolean]
  staticTypes := #[]
  resolved := Array.replicate 119 none
  statics := none }

def pool3 : Array CpInfo := pool [(1, u "java/lang/Cloneable"), (0, .class_ 1), (0, u "java/lang/Object"), (0, .class_ 3)] 3

/-- java/lang/Cloneable -/
def k3 : Class := { plain "java/lang/Cloneable" (some 0) with
  accessFlags := 1537
  interfaces := #[]
  cf := some (fileOf pool3 2 #[] #[] 1537 4 #[] #[])
  fields := #[]
  methods := #[]
  instanceTypes := #[]
  staticTypes := #[]
  resolved := Array.replicate 8 none
  statics := none }

def pool4 : Array CpInfo := pool [(1, u "java/io/Serializable"), (0, .class_ 1), (0, u "java/lang/Object"), (0, .class_ 3)] 3

/-- java/io/Serializable -/
def k4 : Class := { plain "java/io/Serializable" (some 0) with
  accessFlags := 1537
  interfaces := #[]
  cf := some (fileOf pool4 2 #[] #[] 1537 4 #[] #[])
  fields := #[]
  methods := #[]
  instanceTypes := #[]
  staticTypes := #[]
  resolved := Array.replicate 8 none
  statics := none }

/-- the primitive byte -/
def k5 : Class := { plain "byte" none with kind := .primitive 'B', accessFlags := 0x411 }
/-- [B -/
def k6 : Class := { plain "[B" (some 0) with kind := .array 5 .byte, interfaces := #[3, 4], accessFlags := 1041 }

/-- the primitive int -/
def k7 : Class := { plain "int" none with kind := .primitive 'I', accessFlags := 0x411 }
/-- [I -/
def k8 : Class := { plain "[I" (some 0) with kind := .array 7 .int, interfaces := #[3, 4], accessFlags := 1041 }

def heap : Heap := #[]
def classes : Array Class := #[k0, k1, k2, k3, k4, k5, k6, k7, k8]
def interned : List (Array UInt16 × Addr) := []
def slotsUsed : Nat := 0
def theMethod : MethodId := ⟨1, 2⟩
def args0 : Array Value := #[.int 5]
def aboutOver (below : List Frame) : State where
  vm := { classes := classes, interned := interned.toArray }
  heap := heap
  slotsUsed := slotsUsed
  threads := #[{ frames := .invoking theMethod args0 :: below }]
def below0 : List Frame := [.native { method := ⟨0, 0⟩, args := #[] }]
def about1 : State := aboutOver below0
def p0 : Program := .bare "" "" ""
def e0 : Env := launch0.env 0 0 0
theorem w_frames : about1.frames = Frame.invoking theMethod args0 :: below0 := rfl
set_option maxRecDepth 65536 in
theorem w_args : argsFit about1.vm theMethod args0 = true := by decide +kernel
set_option maxRecDepth 65536 in
theorem w_heap : heapFits about1 = true := by decide +kernel
set_option maxRecDepth 65536 in
theorem w_runnable : about1.curStatus? = some .runnable := by decide +kernel
set_option maxRecDepth 65536 in
theorem w_alone : about1.alone = true := by decide +kernel
set_option maxRecDepth 65536 in
theorem w_named : about1.methodNamed? x = some theMethod := by decide +kernel
set_option maxRecDepth 65536 in
theorem w_hears : about1.hears theMethod below0 = true := by decide +kernel
set_option maxRecDepth 65536 in
theorem w_ripe : about1.ripe theMethod args0 below0 = true := by decide +kernel
theorem w_running : about1.status = .running := rfl
set_option maxRecDepth 65536 in
theorem w_room : about1.hasRoom e0.platform room_1 = true :=
  launch0.hasRoom_least _ room_1 (by decide +kernel) (by decide +kernel) (by decide +kernel) (by decide +kernel) (by decide +kernel) (by decide +kernel)
theorem allAtoms_all (ts : List Jvm.Cond) (a : Array Jvm.Value) (st : Jvm.State) : (allAtoms ts).before a st = ts.all (fun c => c.before a st) := by
  induction ts with
  | nil => rfl
  | cons c t ih =>
    show (Jvm.Cond.and c (allAtoms t)).before a st = _
    rw [Jvm.Cond.before_and, ih, List.all_cons]
def words1 : List Jvm.Cond := Jvm.Cond.code x code maxLocals ret :: tables_1
/-- a 'code' word, met by the world's own term for the bytes: nothing is compared byte by byte -/
theorem code_word {y : MethodName} {bytes : ByteArray} {mx : Nat} {rt : Option FieldType} {a : Array Value} {s : State} {m : MethodId} {meth : Method} {c : Code} (h1 : s.methodNamed? y = some m) (h2 : s.vm.method? m = some meth) (h3 : meth.code = some c) (h4 : c.code = bytes)
    (h5 : (c.maxLocals == mx && c.exceptionTable.isEmpty && decide (c.maxStack ≤ mostOperands) && decide (meth.sig.returnType = rt) && !meth.locks && decide (parseMethodDescriptor y.desc = some meth.sig)) = true) : (Jvm.Cond.code y bytes mx rt).before a s = true := by
  simp only [Bool.and_eq_true, beq_iff_eq, Bool.not_eq_true', decide_eq_true_eq] at h5
  obtain ⟨⟨⟨⟨⟨g1, g2⟩, g3⟩, g4⟩, g5⟩, g6⟩ := h5
  simp [Cond.before, Cond.holds, Cond.value, h1, h2, h3, h4, g1, g2, g3, g4, g5, g6]
def isCode : Jvm.Cond → Bool
  | .code _ _ _ _ => true
  | _ => false
theorem all_split {L : List Jvm.Cond} {P : Jvm.Cond → Bool} (h1 : L.all (fun c => isCode c || P c) = true) (h2 : ∀ c ∈ L.filter isCode, P c = true) : L.all P = true := by
  refine List.all_eq_true.mpr fun c hc => ?_
  have h := List.all_eq_true.mp h1 c hc
  rcases Bool.eq_false_or_eq_true (isCode c) with hi | hi
  · exact h2 c (List.mem_filter.mpr ⟨hc, hi⟩)
  · simpa [hi] using h
set_option maxRecDepth 65536 in
theorem w_c0 : (Jvm.Cond.code x code maxLocals ret).before args0 about1 = true := code_word (m := ⟨1, 2⟩) (meth := k1m2) (c := k1c2) (by decide +kernel) rfl rfl rfl (by decide +kernel)
set_option maxRecDepth 65536 in
theorem w_c1 : (Jvm.Cond.code ({ cls := "com/example/svarbud/svarbud/message/TextLines", name := "isLineBreak", desc := "(C)Z" } : Jvm.MethodName) prog_100_method_8_code (1 : Nat) (Option.some Jvm.ClassFile.FieldType.boolean)).before args0 about1 = true := code_word (m := ⟨2, 1⟩) (meth := k2m1) (c := k2c1) (by decide +kernel) rfl rfl rfl (by decide +kernel)
set_option maxRecDepth 65536 in
theorem w_c2 : (Jvm.Cond.code ({ cls := "com/example/svarbud/svarbud/message/TextLinesIsLineBreakPinLaw", name := "expected", desc := "(I)Z" } : Jvm.MethodName) method_2_code (1 : Nat) (Option.some Jvm.ClassFile.FieldType.boolean)).before args0 about1 = true := code_word (m := ⟨1, 1⟩) (meth := k1m1) (c := k1c1) (by decide +kernel) rfl rfl rfl (by decide +kernel)
def codes1 : List Jvm.Cond := [Jvm.Cond.code x code maxLocals ret, Jvm.Cond.code ({ cls := "com/example/svarbud/svarbud/message/TextLines", name := "isLineBreak", desc := "(C)Z" } : Jvm.MethodName) prog_100_method_8_code (1 : Nat) (Option.some Jvm.ClassFile.FieldType.boolean), Jvm.Cond.code ({ cls := "com/example/svarbud/svarbud/message/TextLinesIsLineBreakPinLaw", name := "expected", desc := "(I)Z" } : Jvm.MethodName) method_2_code (1 : Nat) (Option.some Jvm.ClassFile.FieldType.boolean)]
set_option maxRecDepth 65536 in
theorem codes_eq : words1.filter isCode = codes1 := rfl
theorem w_codes : ∀ c ∈ words1.filter isCode, c.before args0 about1 = true := by
  rw [codes_eq]
  intro c hc
  simp only [codes1, List.mem_cons, List.not_mem_nil, or_false] at hc
  rcases hc with rfl | rfl | rfl
  · exact w_c0
  · exact w_c1
  · exact w_c2
set_option maxRecDepth 65536 in
theorem w_t1 : words1.all (fun c => isCode c || c.before args0 about1) = true := by decide +kernel
theorem w_tables : (allAtoms (Jvm.Cond.code x code maxLocals ret :: tables_1)).before args0 about1 = true := by
  rw [allAtoms_all]
  show words1.all (fun c => c.before args0 about1) = true
  refine all_split ?_ w_codes
  rw [w_t1]
set_option maxRecDepth 65536 in
theorem w_case : (Jvm.Cond.and given_1 narrow_1).before args0 about1 = true := by decide +kernel
theorem w_applies : (headSpec (Jvm.Cond.code x code maxLocals ret :: tables_1) room_1).applies x e0.platform about1 = true :=
  (Spec.applies_iff w_frames).mpr ⟨w_running, w_runnable, w_alone, w_named, w_hears, w_ripe, w_room, w_tables⟩
theorem atStart : AtStart classFile x code maxLocals ret World_1 tables_1 room_1 Calls_1 rest_1 Pre_1 launch0 p0 e0 about1 theMethod args0 below0 :=
  ⟨lists_1, trivial, launch0.admits_env _ _ _, launch0.least_env, fairChoices_fair.cas, fairChoices_fair.clock, w_frames, w_args, w_heap, w_applies, trivial, trivial, w_case⟩
end start1
theorem witness_1 : WitnessClaimed_1 := ⟨start1.p0, start1.e0, start1.about1, start1.theMethod, start1.args0, start1.below0, start1.atStart⟩
end Jvm.Pilot.@@N@@
