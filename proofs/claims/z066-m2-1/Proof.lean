import JvmDerived
import JvmDerived.Pilot.@@N@@Statement
import JvmDerived.Pilot.@@N@@Code
set_option linter.unusedVariables false
set_option linter.unusedSimpArgs false
namespace Jvm.RoadKit
open Sem ClassFile Op Lib Jvm.Stand Jvm.Free Jvm.LawKit
section New
variable {p : Program} {l : Launch} {e : Env} {R : Room} {s : State} {m : MethodId} {args : Array Value} {below : List Frame} {meth : Method} {c : Code} {T : State} {locs : List Loc} {cells slots : Nat}
theorem retI (X : Stand p l e R s m args below meth c T locs cells slots) (hx : p.tables.exec = Jvm.exec) {pc : Nat} {Ls : Array Slot} {z : Int32} {rest : List Value} (hret : meth.sig.returnType = some .int) (hd : decode c.code pc = .ok (.ireturn, 1)) {fs : List Frame}
    (hl : ∀ (f : JFrame) (acts : List Action), f.method = m → f.locked = none → f.entered = [] → (doReturn e (T.setTop f) acts (some (.int z))).1 = T.setFrames fs) : Steps p.tables e below (T.setTop (mkF m pc Ls (.int z :: rest))) (T.setFrames fs) := by
  have hm' : T.vm.method? m = some meth := X.method'
  have hn : narrow .int (.int z) = .int z := rfl
  show Steps p.tables e below (T.setTop { method := m, pc := pc, locals := Ls, stack := _ :: rest, locked := none }) _
  jvm_step X.here [X.here.top, hx, hd, hm', hret, hn]
  first | (intro acts; rw [hl _ acts rfl rfl rfl]) | rw [hl _ _ rfl rfl rfl]
  exact Steps.refl _
end New
end Jvm.RoadKit
namespace Jvm.Pilot.@@N@@
open Jvm Jvm.ClassFile Sem Op Lib Jvm.Free Jvm.Stand Jvm.LawKit Jvm.RoadKit Bundle Jvm.Pilot.@@N@@.Jvm.D
theorem lremM {p : Program} {l : Launch} {e : Env} {R : Room} {s : State} {m : MethodId} {args : Array Value} {below : List Frame} {meth : Method} {c : Code} {T : State} {locs : List Loc} {cells slots : Nat} {g : JFrame} {target : State} (X : Stand p l e R s m args below meth c T locs cells slots) (hx : p.tables.exec = Jvm.exec) (hg : g.method = m) {x y : Int64} {rest : List Value} (hd : decode c.code g.pc = .ok (.lrem, 1)) (hs : g.stack = .long y :: .long x :: rest) (hy : y ≠ 0)
    (hr : Steps p.tables e below (T.setTop { g with pc := g.pc + 1, stack := .long (x % y) :: rest }) target) : Steps p.tables e below (T.setTop g) target :=
  XS.lrem X.here hx hg hd hs hy (by rw [lrem_mod]; exact hr)
theorem pd_0 : parseMethodDescriptor "()V" = some ⟨[], none⟩ := by decide +kernel
theorem pd_1 : parseMethodDescriptor "(JI)V" = some ⟨[.long, .int], none⟩ := by decide +kernel
theorem pd_2 : parseMethodDescriptor "(JJ)Z" = some ⟨[.long, .long], some .boolean⟩ := by decide +kernel
theorem pd_3 : parseMethodDescriptor "()J" = some ⟨[], some .long⟩ := by decide +kernel
theorem pd_4 : parseMethodDescriptor "()I" = some ⟨[], some .int⟩ := by decide +kernel
theorem d1_0 : decode prog_126_method_1_code 0 = .ok (.aload_n 0, 1) := by decide +kernel
theorem d1_1 : decode prog_126_method_1_code 1 = .ok (.invokespecial 1, 3) := by decide +kernel
theorem d1_4 : decode prog_126_method_1_code 4 = .ok (.return_, 1) := by decide +kernel
theorem d3_0 : decode prog_126_method_4_code 0 = .ok (.aload_n 0, 1) := by decide +kernel
theorem d3_1 : decode prog_126_method_4_code 1 = .ok (.lload_n 1, 1) := by decide +kernel
theorem d3_2 : decode prog_126_method_4_code 2 = .ok (.putfield 7, 3) := by decide +kernel
theorem d3_5 : decode prog_126_method_4_code 5 = .ok (.aload_n 0, 1) := by decide +kernel
theorem d3_6 : decode prog_126_method_4_code 6 = .ok (.iload_n 3, 1) := by decide +kernel
theorem d3_7 : decode prog_126_method_4_code 7 = .ok (.putfield 13, 3) := by decide +kernel
theorem d3_10 : decode prog_126_method_4_code 10 = .ok (.return_, 1) := by decide +kernel
theorem d4_0 : decode prog_126_method_8_code 0 = .ok (.aload_n 0, 1) := by decide +kernel
theorem d4_1 : decode prog_126_method_8_code 1 = .ok (.getfield 7, 3) := by decide +kernel
theorem d4_4 : decode prog_126_method_8_code 4 = .ok (.lload_n 1, 1) := by decide +kernel
theorem d4_5 : decode prog_126_method_8_code 5 = .ok (.lcmp, 1) := by decide +kernel
theorem d4_6 : decode prog_126_method_8_code 6 = .ok (.ifCond .lt 22, 3) := by decide +kernel
theorem d4_9 : decode prog_126_method_8_code 9 = .ok (.aload_n 0, 1) := by decide +kernel
theorem d4_10 : decode prog_126_method_8_code 10 = .ok (.getfield 7, 3) := by decide +kernel
theorem d4_13 : decode prog_126_method_8_code 13 = .ok (.lload_n 1, 1) := by decide +kernel
theorem d4_14 : decode prog_126_method_8_code 14 = .ok (.lcmp, 1) := by decide +kernel
theorem d4_15 : decode prog_126_method_8_code 15 = .ok (.ifCond .ne 17, 3) := by decide +kernel
theorem d4_18 : decode prog_126_method_8_code 18 = .ok (.aload_n 0, 1) := by decide +kernel
theorem d4_19 : decode prog_126_method_8_code 19 = .ok (.getfield 13, 3) := by decide +kernel
theorem d4_22 : decode prog_126_method_8_code 22 = .ok (.i2l, 1) := by decide +kernel
theorem d4_23 : decode prog_126_method_8_code 23 = .ok (.lload_n 3, 1) := by decide +kernel
theorem d4_24 : decode prog_126_method_8_code 24 = .ok (.lcmp, 1) := by decide +kernel
theorem d4_25 : decode prog_126_method_8_code 25 = .ok (.ifCond .ge 7, 3) := by decide +kernel
theorem d4_28 : decode prog_126_method_8_code 28 = .ok (.iconst 1, 1) := by decide +kernel
theorem d4_29 : decode prog_126_method_8_code 29 = .ok (.goto 4, 3) := by decide +kernel
theorem d4_32 : decode prog_126_method_8_code 32 = .ok (.iconst 0, 1) := by decide +kernel
theorem d4_33 : decode prog_126_method_8_code 33 = .ok (.ireturn, 1) := by decide +kernel
theorem d5_0 : decode prog_126_method_2_code 0 = .ok (.aload_n 0, 1) := by decide +kernel
theorem d5_1 : decode prog_126_method_2_code 1 = .ok (.getfield 7, 3) := by decide +kernel
theorem d5_4 : decode prog_126_method_2_code 4 = .ok (.lreturn, 1) := by decide +kernel
theorem d6_0 : decode prog_126_method_3_code 0 = .ok (.aload_n 0, 1) := by decide +kernel
theorem d6_1 : decode prog_126_method_3_code 1 = .ok (.getfield 13, 3) := by decide +kernel
theorem d6_4 : decode prog_126_method_3_code 4 = .ok (.ireturn, 1) := by decide +kernel
def Qi (Z : State) (a1 : Addr) (h0 : Heap) (n0 : Nat) (v : Option Value) (h : Heap) (L : List Loc) : Prop := v = none ∧ Fr n0 L ∧ h = h0
theorem pn_1 : plainName "com/example/wakeline/wakeline/stream/Moment" = true := by first | (simp [plainName, overriddenIn]; done) | decide +kernel
theorem ef_1 (m : MethodId) (a1 : Addr) : entryFrame m #[(.ref a1)] 1 = mkF m 0 #[.val (.ref a1)] [] := by first | (simp [entryFrame, mkF, argsToLocals, Value.category]; done) | rfl
set_option maxRecDepth 65536 in
set_option maxHeartbeats 40000000 in
theorem rmi (l : Launch) (Z : State) (a0 : Array Value) (hw : ∀ d ∈ tables_1, d.before a0 Z = true) (ws : List Jvm.Cond) (a1 : Addr)  (h0 : Heap) (n0 : Nat) (Z0 : n0 ≤ h0.size)  :
    MetFree l (⟨"com/example/wakeline/wakeline/stream/Moment", "<init>", "()V"⟩ : MethodName) (head1 (Jvm.Cond.code (⟨"com/example/wakeline/wakeline/stream/Moment", "<init>", "()V"⟩ : MethodName) prog_126_method_1_code 1 none :: ws) ({ frames := 1, cells := 0, slots := 0, locals := 12 } : Room)) (fun a U => a = #[(.ref a1)] ∧ Z.Warmed39 U.vm ∧ U.heap = h0) (fun _ _ _ _ _ => True) (fun _ U o U' => ∃ v L, o = .returned v ∧ Qi Z a1 h0 n0 v U'.heap L ∧ FrameEnd U o U' L ({ frames := 1, cells := 0, slots := 0, locals := 12 } : Room).cells ({ frames := 1, cells := 0, slots := 0, locals := 12 } : Room).slots) := by
  refine MetFree.of_bodySF (plainFor_of_name pn_1) hisR ?_
  intro p e s m args below meth c s₁ Bd hml0 hP hK
  obtain ⟨rfl, hZ, hh⟩ := hP
  have hx := Bd.exec
  have hby := Bd.bytes
  have hml : c.maxLocals = 1 := hml0
  have hown : s.vm.findClass "com/example/wakeline/wakeline/stream/Moment" = some m.cls := findClass_of_methodNamed Bd.named
  have hnm := (name_of_methodNamed Bd.named Bd.method).1
  have X0 : Stand p l e ({ frames := 1, cells := 0, slots := 0, locals := 12 } : Room) s m #[(.ref a1)] below meth c s₁ [] 0 0 := Stand.of_body Bd
  have e0 : s₁.heap = h0 := by rw [← hh, Bd.state]; rfl
  have N0 := Fr.nil n0
  have pre0 : Goes p e below s₁ (entryFrame m #[(.ref a1)] 1) s₁ (mkF m 0 #[.val (.ref a1)] []) := fun t k => castTop (ef_1 m a1) k
  have pre1 : Goes p e below s₁ (entryFrame m #[(.ref a1)] 1) s₁ (mkF m 1 #[.val (.ref a1)] [(.ref a1)]) := fun t k => pre0 t (by
      refine XS.aloadN X0.here hx rfl (hb hby d1_0) rfl rfl ?_
      show Steps p.tables e below (s₁.setTop (mkF m 1 #[.val (.ref a1)] [(.ref a1)])) _
      exact k)
  obtain ⟨T2, X2, e2, st2⟩ := initO X0 hx hZ hown (hw _ (List.mem_of_getElem? (i := 8) rfl)) (hw _ (List.mem_of_getElem? (i := 9) rfl)) (hw _ (List.mem_of_getElem? (i := 10) rfl)) e0 (g := (mkF m 1 #[.val (.ref a1)] [(.ref a1)])) rfl (by rw [hml]; rfl) rfl (hb hby d1_1) (by decide) (W := 0) (by show 2 * 0 + _ ≤ _; exact Nat.le_of_eq rfl) (by decide)
  have pre2 : Goes p e below s₁ (entryFrame m #[(.ref a1)] 1) T2 (mkF m 4 #[.val (.ref a1)] []) := fun t k => pre1 t (st2 _ k)
  obtain ⟨fs, hr, hrun, hended, hW, hsame⟩ := X2.leave (v := none) (fun _ => rfl)
  refine ⟨_, _, pre2 _ (X2.returnOut hx Bd.returns (hb hby d1_4) hr), hrun, hended, _, _, rfl, ?_, ⟨_, rfl⟩, hW, hsame.mono (by decide) (by decide)⟩
  show Qi Z a1 h0 n0 _ T2.heap _
  rw [e2]
  exact ⟨rfl, N0, rfl⟩
def Qs (Z : State) (a1 : Addr) (q2 : Int64) (p3 : Int32) (h0 : Heap) (n0 : Nat) (v : Option Value) (h : Heap) (L : List Loc) : Prop := v = none ∧ Fr n0 L ∧ Keep h0 h [a1] ∧ Exa Z h a1 "com/example/wakeline/wakeline/stream/Moment" ∧ Fld Z h a1 "com/example/wakeline/wakeline/stream/Moment" "seconds" "J" (.long q2) ∧ Fld Z h a1 "com/example/wakeline/wakeline/stream/Moment" "nanos" "I" (.int p3)
theorem pn_3 : plainName "com/example/wakeline/wakeline/stream/Moment" = true := by first | (simp [plainName, overriddenIn]; done) | decide +kernel
theorem ef_3 (m : MethodId) (a1 : Addr) (q2 : Int64) (p3 : Int32) : entryFrame m #[(.ref a1), (.long q2), (.int p3)] 4 = mkF m 0 #[.val (.ref a1), .val (.long q2), .second, .val (.int p3)] [] := by first | (simp [entryFrame, mkF, argsToLocals, Value.category]; done) | rfl
set_option maxRecDepth 65536 in
set_option maxHeartbeats 40000000 in
theorem rms (l : Launch) (Z : State) (a0 : Array Value) (hw : ∀ d ∈ tables_1, d.before a0 Z = true) (ws : List Jvm.Cond) (a1 : Addr) (q2 : Int64) (p3 : Int32) (us un : Value) (h0 : Heap) (n0 : Nat) (Z0 : n0 ≤ h0.size) (E1 : Exa Z h0 a1 "com/example/wakeline/wakeline/stream/Moment") (F1 : Fld Z h0 a1 "com/example/wakeline/wakeline/stream/Moment" "seconds" "J" us) (F2 : Fld Z h0 a1 "com/example/wakeline/wakeline/stream/Moment" "nanos" "I" un) (g1 : n0 ≤ a1) :
    MetFree l (⟨"com/example/wakeline/wakeline/stream/Moment", "set", "(JI)V"⟩ : MethodName) (head1 (Jvm.Cond.code (⟨"com/example/wakeline/wakeline/stream/Moment", "set", "(JI)V"⟩ : MethodName) prog_126_method_4_code 4 none :: ws) ({ frames := 0, cells := 0, slots := 0, locals := 0 } : Room)) (fun a U => a = #[(.ref a1), (.long q2), (.int p3)] ∧ Z.Warmed39 U.vm ∧ U.heap = h0) (fun _ _ _ _ _ => True) (fun _ U o U' => ∃ v L, o = .returned v ∧ Qs Z a1 q2 p3 h0 n0 v U'.heap L ∧ FrameEnd U o U' L ({ frames := 0, cells := 0, slots := 0, locals := 0 } : Room).cells ({ frames := 0, cells := 0, slots := 0, locals := 0 } : Room).slots) := by
  refine MetFree.of_bodySF (plainFor_of_name pn_3) hisR ?_
  intro p e s m args below meth c s₁ Bd hml0 hP hK
  obtain ⟨rfl, hZ, hh⟩ := hP
  have hx := Bd.exec
  have hby := Bd.bytes
  have hml : c.maxLocals = 4 := hml0
  have hown : s.vm.findClass "com/example/wakeline/wakeline/stream/Moment" = some m.cls := findClass_of_methodNamed Bd.named
  have hnm := (name_of_methodNamed Bd.named Bd.method).1
  have X0 : Stand p l e ({ frames := 0, cells := 0, slots := 0, locals := 0 } : Room) s m #[(.ref a1), (.long q2), (.int p3)] below meth c s₁ [] 0 0 := Stand.of_body Bd
  have e0 : s₁.heap = h0 := by rw [← hh, Bd.state]; rfl
  have N0 := Fr.nil n0
  have pre0 : Goes p e below s₁ (entryFrame m #[(.ref a1), (.long q2), (.int p3)] 4) s₁ (mkF m 0 #[.val (.ref a1), .val (.long q2), .second, .val (.int p3)] []) := fun t k => castTop (ef_3 m a1 q2 p3) k
  have pre3 : Goes p e below s₁ (entryFrame m #[(.ref a1), (.long q2), (.int p3)] 4) s₁ (mkF m 2 #[.val (.ref a1), .val (.long q2), .second, .val (.int p3)] [(.long q2), (.ref a1)]) := fun t k => pre0 t (by
      refine XS.aloadN X0.here hx rfl (hb hby d3_0) rfl rfl ?_
      show Steps p.tables e below (s₁.setTop (mkF m 1 #[.val (.ref a1), .val (.long q2), .second, .val (.int p3)] [(.ref a1)])) _
      refine XS.lloadN X0.here hx rfl (hb hby d3_1) rfl ?_
      show Steps p.tables e below (s₁.setTop (mkF m 2 #[.val (.ref a1), .val (.long q2), .second, .val (.int p3)] [(.long q2), (.ref a1)])) _
      exact k)
  obtain ⟨T4, h4, X4, e4, W4, st4⟩ := putF X0 hx hZ hown (host := "") (Or.inl (hw _ (List.mem_of_getElem? (i := 16) rfl))) Via.refl e0 F1 E1 (Or.inl (hw _ (List.mem_of_getElem? (i := 17) rfl))) (hw _ (List.mem_of_getElem? (i := 3) rfl)) (ty := .long) (by decide) rfl rfl (g := (mkF m 2 #[.val (.ref a1), .val (.long q2), .second, .val (.int p3)] [(.long q2), (.ref a1)])) rfl rfl (hb hby d3_2)
  have N4 := Fr.snoc X4 N0 g1
  have pre4 : Goes p e below s₁ (entryFrame m #[(.ref a1), (.long q2), (.int p3)] 4) T4 (mkF m 5 #[.val (.ref a1), .val (.long q2), .second, .val (.int p3)] []) := fun t k => pre3 t (st4 _ k)
  have F1a := F1.same W4
  have F2a := F2.other W4 (Or.inr (slot_ne (Or.inl (hw _ (List.mem_of_getElem? (i := 19) rfl))) (Or.inl (hw _ (List.mem_of_getElem? (i := 17) rfl))) (by decide) (t := .int) (t' := .long) (by decide) (by decide)))
  have E1a := E1.wr W4
  have K1 : Keep h0 h4 [a1] := (Keep.refl h0 [a1]).wr W4 (Or.inl (List.mem_of_getElem? (i := 0) rfl))
  have pre5 : Goes p e below s₁ (entryFrame m #[(.ref a1), (.long q2), (.int p3)] 4) T4 (mkF m 7 #[.val (.ref a1), .val (.long q2), .second, .val (.int p3)] [(.int p3), (.ref a1)]) := fun t k => pre4 t (by
      refine XS.aloadN X4.here hx rfl (hb hby d3_5) rfl rfl ?_
      show Steps p.tables e below (T4.setTop (mkF m 6 #[.val (.ref a1), .val (.long q2), .second, .val (.int p3)] [(.ref a1)])) _
      refine XS.iloadN X4.here hx rfl (hb hby d3_6) rfl ?_
      show Steps p.tables e below (T4.setTop (mkF m 7 #[.val (.ref a1), .val (.long q2), .second, .val (.int p3)] [(.int p3), (.ref a1)])) _
      exact k)
  obtain ⟨T6, h6, X6, e6, W6, st6⟩ := putF X4 hx hZ hown (host := "") (Or.inl (hw _ (List.mem_of_getElem? (i := 18) rfl))) Via.refl e4 F2a E1a (Or.inl (hw _ (List.mem_of_getElem? (i := 19) rfl))) (hw _ (List.mem_of_getElem? (i := 3) rfl)) (ty := .int) (by decide) rfl rfl (g := (mkF m 7 #[.val (.ref a1), .val (.long q2), .second, .val (.int p3)] [(.int p3), (.ref a1)])) rfl rfl (hb hby d3_7)
  have N6 := Fr.snoc X6 N4 g1
  have pre6 : Goes p e below s₁ (entryFrame m #[(.ref a1), (.long q2), (.int p3)] 4) T6 (mkF m 10 #[.val (.ref a1), .val (.long q2), .second, .val (.int p3)] []) := fun t k => pre5 t (st6 _ k)
  have F2b := F2a.same W6
  have F1b := F1a.other W6 (Or.inr (slot_ne (Or.inl (hw _ (List.mem_of_getElem? (i := 17) rfl))) (Or.inl (hw _ (List.mem_of_getElem? (i := 19) rfl))) (by decide) (t := .long) (t' := .int) (by decide) (by decide)))
  have E1b := E1a.wr W6
  have K2 := K1.wr W6 (Or.inl (List.mem_of_getElem? (i := 0) rfl))
  obtain ⟨fs, hr, hrun, hended, hW, hsame⟩ := X6.leave (v := none) (fun _ => rfl)
  refine ⟨_, _, pre6 _ (X6.returnOut hx Bd.returns (hb hby d3_10) hr), hrun, hended, _, _, rfl, ?_, ⟨_, rfl⟩, hW, hsame.mono (by decide) (by decide)⟩
  show Qs Z a1 q2 p3 h0 n0 _ T6.heap _
  rw [e6]
  exact ⟨rfl, N6, K2, E1b, F1b, F2b⟩
def fB (s1 : Int64) (n1 : Int32) (s2 n2 : Int64) : Int32 := if lcmpW s1 s2 < 0 then 1 else if lcmpW s1 s2 = 0 then (if lcmpW n1.toInt64 n2 < 0 then 1 else 0) else 0
def Qb (Z : State) (a1 : Addr) (q2 q3 : Int64) (s1 : Int64) (n1 : Int32) (h0 : Heap) (n0 : Nat) (v : Option Value) (h : Heap) (L : List Loc) : Prop := v = some (.int (fB s1 n1 q2 q3)) ∧ Fr n0 L ∧ h = h0
theorem pn_4 : plainName "com/example/wakeline/wakeline/stream/Moment" = true := by first | (simp [plainName, overriddenIn]; done) | decide +kernel
theorem ef_4 (m : MethodId) (a1 : Addr) (q2 : Int64) (q3 : Int64) : entryFrame m #[(.ref a1), (.long q2), (.long q3)] 5 = mkF m 0 #[.val (.ref a1), .val (.long q2), .second, .val (.long q3), .second] [] := by first | (simp [entryFrame, mkF, argsToLocals, Value.category]; done) | rfl
set_option maxRecDepth 65536 in
set_option maxHeartbeats 40000000 in
theorem rmb (l : Launch) (Z : State) (a0 : Array Value) (hw : ∀ d ∈ tables_1, d.before a0 Z = true) (ws : List Jvm.Cond) (a1 : Addr) (q2 : Int64) (q3 : Int64) (s1 : Int64) (n1 : Int32) (h0 : Heap) (n0 : Nat) (Z0 : n0 ≤ h0.size) (F1 : Fld Z h0 a1 "com/example/wakeline/wakeline/stream/Moment" "seconds" "J" (.long s1)) (F2 : Fld Z h0 a1 "com/example/wakeline/wakeline/stream/Moment" "nanos" "I" (.int n1)) :
    MetFree l (⟨"com/example/wakeline/wakeline/stream/Moment", "before", "(JJ)Z"⟩ : MethodName) (head1 (Jvm.Cond.code (⟨"com/example/wakeline/wakeline/stream/Moment", "before", "(JJ)Z"⟩ : MethodName) prog_126_method_8_code 5 (some .boolean) :: ws) ({ frames := 0, cells := 0, slots := 0, locals := 0 } : Room)) (fun a U => a = #[(.ref a1), (.long q2), (.long q3)] ∧ Z.Warmed39 U.vm ∧ U.heap = h0) (fun _ _ _ _ _ => True) (fun _ U o U' => ∃ v L, o = .returned v ∧ Qb Z a1 q2 q3 s1 n1 h0 n0 v U'.heap L ∧ FrameEnd U o U' L ({ frames := 0, cells := 0, slots := 0, locals := 0 } : Room).cells ({ frames := 0, cells := 0, slots := 0, locals := 0 } : Room).slots) := by
  refine MetFree.of_bodySF (plainFor_of_name pn_4) hisR ?_
  intro p e s m args below meth c s₁ Bd hml0 hP hK
  obtain ⟨rfl, hZ, hh⟩ := hP
  have hx := Bd.exec
  have hby := Bd.bytes
  have hml : c.maxLocals = 5 := hml0
  have hown : s.vm.findClass "com/example/wakeline/wakeline/stream/Moment" = some m.cls := findClass_of_methodNamed Bd.named
  have hnm := (name_of_methodNamed Bd.named Bd.method).1
  have X0 : Stand p l e ({ frames := 0, cells := 0, slots := 0, locals := 0 } : Room) s m #[(.ref a1), (.long q2), (.long q3)] below meth c s₁ [] 0 0 := Stand.of_body Bd
  have e0 : s₁.heap = h0 := by rw [← hh, Bd.state]; rfl
  have N0 := Fr.nil n0
  have pre0 : Goes p e below s₁ (entryFrame m #[(.ref a1), (.long q2), (.long q3)] 5) s₁ (mkF m 0 #[.val (.ref a1), .val (.long q2), .second, .val (.long q3), .second] []) := fun t k => castTop (ef_4 m a1 q2 q3) k
  have pre7 : Goes p e below s₁ (entryFrame m #[(.ref a1), (.long q2), (.long q3)] 5) s₁ (mkF m 1 #[.val (.ref a1), .val (.long q2), .second, .val (.long q3), .second] [(.ref a1)]) := fun t k => pre0 t (by
      refine XS.aloadN X0.here hx rfl (hb hby d4_0) rfl rfl ?_
      show Steps p.tables e below (s₁.setTop (mkF m 1 #[.val (.ref a1), .val (.long q2), .second, .val (.long q3), .second] [(.ref a1)])) _
      exact k)
  obtain ⟨T8, X8, e8, st8⟩ := getF X0 hx hZ hown (host := "") (Or.inl (hw _ (List.mem_of_getElem? (i := 16) rfl))) Via.refl e0 F1 (g := (mkF m 1 #[.val (.ref a1), .val (.long q2), .second, .val (.long q3), .second] [(.ref a1)])) rfl rfl (hb hby d4_1)
  have pre8 : Goes p e below s₁ (entryFrame m #[(.ref a1), (.long q2), (.long q3)] 5) T8 (mkF m 4 #[.val (.ref a1), .val (.long q2), .second, .val (.long q3), .second] [(.long s1)]) := fun t k => pre7 t (st8 _ k)
  have pre9 : Goes p e below s₁ (entryFrame m #[(.ref a1), (.long q2), (.long q3)] 5) T8 (mkF m 6 #[.val (.ref a1), .val (.long q2), .second, .val (.long q3), .second] [(.int (lcmpW s1 q2))]) := fun t k => pre8 t (by
      refine XS.lloadN X8.here hx rfl (hb hby d4_4) rfl ?_
      show Steps p.tables e below (T8.setTop (mkF m 5 #[.val (.ref a1), .val (.long q2), .second, .val (.long q3), .second] [(.long q2), (.long s1)])) _
      refine XS.lcmp X8.here hx rfl (hb hby d4_5) rfl ?_
      show Steps p.tables e below (T8.setTop (mkF m 6 #[.val (.ref a1), .val (.long q2), .second, .val (.long q3), .second] [(.int (lcmpW s1 q2))])) _
      exact k)
  by_cases hc10 : (lcmpW s1 q2) < (0 : Int32)
  · skip
    have pre11 : Goes p e below s₁ (entryFrame m #[(.ref a1), (.long q2), (.long q3)] 5) T8 (mkF m 33 #[.val (.ref a1), .val (.long q2), .second, .val (.long q3), .second] [(.int (1 : Int32))]) := fun t k => pre9 t (by
        refine XS.ifYes X8.here hx rfl (pc0 := 6) (pc' := 28) rfl (hb hby d4_6) rfl ((if0 _ _).trans (tlt hc10).1) (by decide) (by decide) ?_
        show Steps p.tables e below (T8.setTop (mkF m 28 #[.val (.ref a1), .val (.long q2), .second, .val (.long q3), .second] [])) _
        refine XS.iconst X8.here hx rfl (hb hby d4_28) ?_
        show Steps p.tables e below (T8.setTop (mkF m 29 #[.val (.ref a1), .val (.long q2), .second, .val (.long q3), .second] [(.int (1 : Int32))])) _
        refine XS.goto X8.here hx rfl (pc0 := 29) (pc' := 33) rfl (hb hby d4_29) (by decide) (by decide) ?_
        show Steps p.tables e below (T8.setTop (mkF m 33 #[.val (.ref a1), .val (.long q2), .second, .val (.long q3), .second] [(.int (1 : Int32))])) _
        exact k)
    obtain ⟨fs, hr, hrun, hended, hW, hsame⟩ := X8.leave (v := some (.int (1 : Int32))) (fun h => by rw [Bd.returns] at h; cases h)
    refine ⟨_, _, pre11 _ (retN X8 hx (t := .boolean) Bd.returns (by simp) (hb hby d4_33) hr), hrun, hended, _, _, rfl, ?_, ⟨_, rfl⟩, hW, hsame.mono (by decide) (by decide)⟩
    show Qb Z a1 q2 q3 s1 n1 h0 n0 _ T8.heap _
    rw [e8]
    exact ⟨by rw [show fB s1 n1 q2 q3 = (1 : Int32) from if_pos hc10], N0, rfl⟩
  · skip
    have pre12 : Goes p e below s₁ (entryFrame m #[(.ref a1), (.long q2), (.long q3)] 5) T8 (mkF m 10 #[.val (.ref a1), .val (.long q2), .second, .val (.long q3), .second] [(.ref a1)]) := fun t k => pre9 t (by
        refine XS.ifNo X8.here hx rfl (hb hby d4_6) rfl ((if0 _ _).trans (flt hc10).1) ?_
        show Steps p.tables e below (T8.setTop (mkF m 9 #[.val (.ref a1), .val (.long q2), .second, .val (.long q3), .second] [])) _
        refine XS.aloadN X8.here hx rfl (hb hby d4_9) rfl rfl ?_
        show Steps p.tables e below (T8.setTop (mkF m 10 #[.val (.ref a1), .val (.long q2), .second, .val (.long q3), .second] [(.ref a1)])) _
        exact k)
    obtain ⟨T13, X13, e13, st13⟩ := getF X8 hx hZ hown (host := "") (Or.inl (hw _ (List.mem_of_getElem? (i := 16) rfl))) Via.refl e8 F1 (g := (mkF m 10 #[.val (.ref a1), .val (.long q2), .second, .val (.long q3), .second] [(.ref a1)])) rfl rfl (hb hby d4_10)
    have pre13 : Goes p e below s₁ (entryFrame m #[(.ref a1), (.long q2), (.long q3)] 5) T13 (mkF m 13 #[.val (.ref a1), .val (.long q2), .second, .val (.long q3), .second] [(.long s1)]) := fun t k => pre12 t (st13 _ k)
    have pre14 : Goes p e below s₁ (entryFrame m #[(.ref a1), (.long q2), (.long q3)] 5) T13 (mkF m 15 #[.val (.ref a1), .val (.long q2), .second, .val (.long q3), .second] [(.int (lcmpW s1 q2))]) := fun t k => pre13 t (by
        refine XS.lloadN X13.here hx rfl (hb hby d4_13) rfl ?_
        show Steps p.tables e below (T13.setTop (mkF m 14 #[.val (.ref a1), .val (.long q2), .second, .val (.long q3), .second] [(.long q2), (.long s1)])) _
        refine XS.lcmp X13.here hx rfl (hb hby d4_14) rfl ?_
        show Steps p.tables e below (T13.setTop (mkF m 15 #[.val (.ref a1), .val (.long q2), .second, .val (.long q3), .second] [(.int (lcmpW s1 q2))])) _
        exact k)
    by_cases hc15 : (lcmpW s1 q2) = (0 : Int32)
    · skip
      have pre16 : Goes p e below s₁ (entryFrame m #[(.ref a1), (.long q2), (.long q3)] 5) T13 (mkF m 19 #[.val (.ref a1), .val (.long q2), .second, .val (.long q3), .second] [(.ref a1)]) := fun t k => pre14 t (by
          refine XS.ifNo X13.here hx rfl (hb hby d4_15) rfl ((if0 _ _).trans (teq hc15).2) ?_
          show Steps p.tables e below (T13.setTop (mkF m 18 #[.val (.ref a1), .val (.long q2), .second, .val (.long q3), .second] [])) _
          refine XS.aloadN X13.here hx rfl (hb hby d4_18) rfl rfl ?_
          show Steps p.tables e below (T13.setTop (mkF m 19 #[.val (.ref a1), .val (.long q2), .second, .val (.long q3), .second] [(.ref a1)])) _
          exact k)
      obtain ⟨T17, X17, e17, st17⟩ := getF X13 hx hZ hown (host := "") (Or.inl (hw _ (List.mem_of_getElem? (i := 18) rfl))) Via.refl e13 F2 (g := (mkF m 19 #[.val (.ref a1), .val (.long q2), .second, .val (.long q3), .second] [(.ref a1)])) rfl rfl (hb hby d4_19)
      have pre17 : Goes p e below s₁ (entryFrame m #[(.ref a1), (.long q2), (.long q3)] 5) T17 (mkF m 22 #[.val (.ref a1), .val (.long q2), .second, .val (.long q3), .second] [(.int n1)]) := fun t k => pre16 t (st17 _ k)
      have pre18 : Goes p e below s₁ (entryFrame m #[(.ref a1), (.long q2), (.long q3)] 5) T17 (mkF m 25 #[.val (.ref a1), .val (.long q2), .second, .val (.long q3), .second] [(.int (lcmpW (n1.toInt64) q3))]) := fun t k => pre17 t (by
          refine XS.i2l X17.here hx rfl (hb hby d4_22) rfl ?_
          show Steps p.tables e below (T17.setTop (mkF m 23 #[.val (.ref a1), .val (.long q2), .second, .val (.long q3), .second] [(.long (n1.toInt64))])) _
          refine XS.lloadN X17.here hx rfl (hb hby d4_23) rfl ?_
          show Steps p.tables e below (T17.setTop (mkF m 24 #[.val (.ref a1), .val (.long q2), .second, .val (.long q3), .second] [(.long q3), (.long (n1.toInt64))])) _
          refine XS.lcmp X17.here hx rfl (hb hby d4_24) rfl ?_
          show Steps p.tables e below (T17.setTop (mkF m 25 #[.val (.ref a1), .val (.long q2), .second, .val (.long q3), .second] [(.int (lcmpW (n1.toInt64) q3))])) _
          exact k)
      by_cases hc19 : (lcmpW (n1.toInt64) q3) < (0 : Int32)
      · skip
        have pre20 : Goes p e below s₁ (entryFrame m #[(.ref a1), (.long q2), (.long q3)] 5) T17 (mkF m 33 #[.val (.ref a1), .val (.long q2), .second, .val (.long q3), .second] [(.int (1 : Int32))]) := fun t k => pre18 t (by
            refine XS.ifNo X17.here hx rfl (hb hby d4_25) rfl ((if0 _ _).trans (tlt hc19).2.1) ?_
            show Steps p.tables e below (T17.setTop (mkF m 28 #[.val (.ref a1), .val (.long q2), .second, .val (.long q3), .second] [])) _
            refine XS.iconst X17.here hx rfl (hb hby d4_28) ?_
            show Steps p.tables e below (T17.setTop (mkF m 29 #[.val (.ref a1), .val (.long q2), .second, .val (.long q3), .second] [(.int (1 : Int32))])) _
            refine XS.goto X17.here hx rfl (pc0 := 29) (pc' := 33) rfl (hb hby d4_29) (by decide) (by decide) ?_
            show Steps p.tables e below (T17.setTop (mkF m 33 #[.val (.ref a1), .val (.long q2), .second, .val (.long q3), .second] [(.int (1 : Int32))])) _
            exact k)
        obtain ⟨fs, hr, hrun, hended, hW, hsame⟩ := X17.leave (v := some (.int (1 : Int32))) (fun h => by rw [Bd.returns] at h; cases h)
        refine ⟨_, _, pre20 _ (retN X17 hx (t := .boolean) Bd.returns (by simp) (hb hby d4_33) hr), hrun, hended, _, _, rfl, ?_, ⟨_, rfl⟩, hW, hsame.mono (by decide) (by decide)⟩
        show Qb Z a1 q2 q3 s1 n1 h0 n0 _ T17.heap _
        rw [e17]
        exact ⟨by rw [show fB s1 n1 q2 q3 = (1 : Int32) from (if_neg hc10).trans ((if_pos hc15).trans (if_pos hc19))], N0, rfl⟩
      · skip
        have pre21 : Goes p e below s₁ (entryFrame m #[(.ref a1), (.long q2), (.long q3)] 5) T17 (mkF m 33 #[.val (.ref a1), .val (.long q2), .second, .val (.long q3), .second] [(.int (0 : Int32))]) := fun t k => pre18 t (by
            refine XS.ifYes X17.here hx rfl (pc0 := 25) (pc' := 32) rfl (hb hby d4_25) rfl ((if0 _ _).trans (flt hc19).2.1) (by decide) (by decide) ?_
            show Steps p.tables e below (T17.setTop (mkF m 32 #[.val (.ref a1), .val (.long q2), .second, .val (.long q3), .second] [])) _
            refine XS.iconst X17.here hx rfl (hb hby d4_32) ?_
            show Steps p.tables e below (T17.setTop (mkF m 33 #[.val (.ref a1), .val (.long q2), .second, .val (.long q3), .second] [(.int (0 : Int32))])) _
            exact k)
        obtain ⟨fs, hr, hrun, hended, hW, hsame⟩ := X17.leave (v := some (.int (0 : Int32))) (fun h => by rw [Bd.returns] at h; cases h)
        refine ⟨_, _, pre21 _ (retN X17 hx (t := .boolean) Bd.returns (by simp) (hb hby d4_33) hr), hrun, hended, _, _, rfl, ?_, ⟨_, rfl⟩, hW, hsame.mono (by decide) (by decide)⟩
        show Qb Z a1 q2 q3 s1 n1 h0 n0 _ T17.heap _
        rw [e17]
        exact ⟨by rw [show fB s1 n1 q2 q3 = (0 : Int32) from (if_neg hc10).trans ((if_pos hc15).trans (if_neg hc19))], N0, rfl⟩
    · skip
      have pre22 : Goes p e below s₁ (entryFrame m #[(.ref a1), (.long q2), (.long q3)] 5) T13 (mkF m 33 #[.val (.ref a1), .val (.long q2), .second, .val (.long q3), .second] [(.int (0 : Int32))]) := fun t k => pre14 t (by
          refine XS.ifYes X13.here hx rfl (pc0 := 15) (pc' := 32) rfl (hb hby d4_15) rfl ((if0 _ _).trans (feq hc15).2) (by decide) (by decide) ?_
          show Steps p.tables e below (T13.setTop (mkF m 32 #[.val (.ref a1), .val (.long q2), .second, .val (.long q3), .second] [])) _
          refine XS.iconst X13.here hx rfl (hb hby d4_32) ?_
          show Steps p.tables e below (T13.setTop (mkF m 33 #[.val (.ref a1), .val (.long q2), .second, .val (.long q3), .second] [(.int (0 : Int32))])) _
          exact k)
      obtain ⟨fs, hr, hrun, hended, hW, hsame⟩ := X13.leave (v := some (.int (0 : Int32))) (fun h => by rw [Bd.returns] at h; cases h)
      refine ⟨_, _, pre22 _ (retN X13 hx (t := .boolean) Bd.returns (by simp) (hb hby d4_33) hr), hrun, hended, _, _, rfl, ?_, ⟨_, rfl⟩, hW, hsame.mono (by decide) (by decide)⟩
      show Qb Z a1 q2 q3 s1 n1 h0 n0 _ T13.heap _
      rw [e13]
      exact ⟨by rw [show fB s1 n1 q2 q3 = (0 : Int32) from (if_neg hc10).trans (if_neg hc15)], N0, rfl⟩
def Qc (Z : State) (a1 : Addr) (s1 : Int64) (h0 : Heap) (n0 : Nat) (v : Option Value) (h : Heap) (L : List Loc) : Prop := v = some (.long s1) ∧ Fr n0 L ∧ h = h0
theorem pn_5 : plainName "com/example/wakeline/wakeline/stream/Moment" = true := by first | (simp [plainName, overriddenIn]; done) | decide +kernel
theorem ef_5 (m : MethodId) (a1 : Addr) : entryFrame m #[(.ref a1)] 1 = mkF m 0 #[.val (.ref a1)] [] := by first | (simp [entryFrame, mkF, argsToLocals, Value.category]; done) | rfl
set_option maxRecDepth 65536 in
set_option maxHeartbeats 40000000 in
theorem rmc (l : Launch) (Z : State) (a0 : Array Value) (hw : ∀ d ∈ tables_1, d.before a0 Z = true) (ws : List Jvm.Cond) (a1 : Addr) (s1 : Int64) (h0 : Heap) (n0 : Nat) (Z0 : n0 ≤ h0.size) (F1 : Fld Z h0 a1 "com/example/wakeline/wakeline/stream/Moment" "seconds" "J" (.long s1)) :
    MetFree l (⟨"com/example/wakeline/wakeline/stream/Moment", "seconds", "()J"⟩ : MethodName) (head1 (Jvm.Cond.code (⟨"com/example/wakeline/wakeline/stream/Moment", "seconds", "()J"⟩ : MethodName) prog_126_method_2_code 1 (some .long) :: ws) ({ frames := 0, cells := 0, slots := 0, locals := 0 } : Room)) (fun a U => a = #[(.ref a1)] ∧ Z.Warmed39 U.vm ∧ U.heap = h0) (fun _ _ _ _ _ => True) (fun _ U o U' => ∃ v L, o = .returned v ∧ Qc Z a1 s1 h0 n0 v U'.heap L ∧ FrameEnd U o U' L ({ frames := 0, cells := 0, slots := 0, locals := 0 } : Room).cells ({ frames := 0, cells := 0, slots := 0, locals := 0 } : Room).slots) := by
  refine MetFree.of_bodySF (plainFor_of_name pn_5) hisR ?_
  intro p e s m args below meth c s₁ Bd hml0 hP hK
  obtain ⟨rfl, hZ, hh⟩ := hP
  have hx := Bd.exec
  have hby := Bd.bytes
  have hml : c.maxLocals = 1 := hml0
  have hown : s.vm.findClass "com/example/wakeline/wakeline/stream/Moment" = some m.cls := findClass_of_methodNamed Bd.named
  have hnm := (name_of_methodNamed Bd.named Bd.method).1
  have X0 : Stand p l e ({ frames := 0, cells := 0, slots := 0, locals := 0 } : Room) s m #[(.ref a1)] below meth c s₁ [] 0 0 := Stand.of_body Bd
  have e0 : s₁.heap = h0 := by rw [← hh, Bd.state]; rfl
  have N0 := Fr.nil n0
  have pre0 : Goes p e below s₁ (entryFrame m #[(.ref a1)] 1) s₁ (mkF m 0 #[.val (.ref a1)] []) := fun t k => castTop (ef_5 m a1) k
  have pre23 : Goes p e below s₁ (entryFrame m #[(.ref a1)] 1) s₁ (mkF m 1 #[.val (.ref a1)] [(.ref a1)]) := fun t k => pre0 t (by
      refine XS.aloadN X0.here hx rfl (hb hby d5_0) rfl rfl ?_
      show Steps p.tables e below (s₁.setTop (mkF m 1 #[.val (.ref a1)] [(.ref a1)])) _
      exact k)
  obtain ⟨T24, X24, e24, st24⟩ := getF X0 hx hZ hown (host := "") (Or.inl (hw _ (List.mem_of_getElem? (i := 16) rfl))) Via.refl e0 F1 (g := (mkF m 1 #[.val (.ref a1)] [(.ref a1)])) rfl rfl (hb hby d5_1)
  have pre24 : Goes p e below s₁ (entryFrame m #[(.ref a1)] 1) T24 (mkF m 4 #[.val (.ref a1)] [(.long s1)]) := fun t k => pre23 t (st24 _ k)
  obtain ⟨fs, hr, hrun, hended, hW, hsame⟩ := X24.leave (v := some (.long s1)) (fun h => by rw [Bd.returns] at h; cases h)
  refine ⟨_, _, pre24 _ (lreturnOut X24 hx Bd.returns (hb hby d5_4) hr), hrun, hended, _, _, rfl, ?_, ⟨_, rfl⟩, hW, hsame.mono (by decide) (by decide)⟩
  show Qc Z a1 s1 h0 n0 _ T24.heap _
  rw [e24]
  exact ⟨rfl, N0, rfl⟩
def Qn (Z : State) (a1 : Addr) (n1 : Int32) (h0 : Heap) (n0 : Nat) (v : Option Value) (h : Heap) (L : List Loc) : Prop := v = some (.int n1) ∧ Fr n0 L ∧ h = h0
theorem pn_6 : plainName "com/example/wakeline/wakeline/stream/Moment" = true := by first | (simp [plainName, overriddenIn]; done) | decide +kernel
theorem ef_6 (m : MethodId) (a1 : Addr) : entryFrame m #[(.ref a1)] 1 = mkF m 0 #[.val (.ref a1)] [] := by first | (simp [entryFrame, mkF, argsToLocals, Value.category]; done) | rfl
set_option maxRecDepth 65536 in
set_option maxHeartbeats 40000000 in
theorem rmn (l : Launch) (Z : State) (a0 : Array Value) (hw : ∀ d ∈ tables_1, d.before a0 Z = true) (ws : List Jvm.Cond) (a1 : Addr) (n1 : Int32) (h0 : Heap) (n0 : Nat) (Z0 : n0 ≤ h0.size) (F2 : Fld Z h0 a1 "com/example/wakeline/wakeline/stream/Moment" "nanos" "I" (.int n1)) :
    MetFree l (⟨"com/example/wakeline/wakeline/stream/Moment", "nanos", "()I"⟩ : MethodName) (head1 (Jvm.Cond.code (⟨"com/example/wakeline/wakeline/stream/Moment", "nanos", "()I"⟩ : MethodName) prog_126_method_3_code 1 (some .int) :: ws) ({ frames := 0, cells := 0, slots := 0, locals := 0 } : Room)) (fun a U => a = #[(.ref a1)] ∧ Z.Warmed39 U.vm ∧ U.heap = h0) (fun _ _ _ _ _ => True) (fun _ U o U' => ∃ v L, o = .returned v ∧ Qn Z a1 n1 h0 n0 v U'.heap L ∧ FrameEnd U o U' L ({ frames := 0, cells := 0, slots := 0, locals := 0 } : Room).cells ({ frames := 0, cells := 0, slots := 0, locals := 0 } : Room).slots) := by
  refine MetFree.of_bodySF (plainFor_of_name pn_6) hisR ?_
  intro p e s m args below meth c s₁ Bd hml0 hP hK
  obtain ⟨rfl, hZ, hh⟩ := hP
  have hx := Bd.exec
  have hby := Bd.bytes
  have hml : c.maxLocals = 1 := hml0
  have hown : s.vm.findClass "com/example/wakeline/wakeline/stream/Moment" = some m.cls := findClass_of_methodNamed Bd.named
  have hnm := (name_of_methodNamed Bd.named Bd.method).1
  have X0 : Stand p l e ({ frames := 0, cells := 0, slots := 0, locals := 0 } : Room) s m #[(.ref a1)] below meth c s₁ [] 0 0 := Stand.of_body Bd
  have e0 : s₁.heap = h0 := by rw [← hh, Bd.state]; rfl
  have N0 := Fr.nil n0
  have pre0 : Goes p e below s₁ (entryFrame m #[(.ref a1)] 1) s₁ (mkF m 0 #[.val (.ref a1)] []) := fun t k => castTop (ef_6 m a1) k
  have pre25 : Goes p e below s₁ (entryFrame m #[(.ref a1)] 1) s₁ (mkF m 1 #[.val (.ref a1)] [(.ref a1)]) := fun t k => pre0 t (by
      refine XS.aloadN X0.here hx rfl (hb hby d6_0) rfl rfl ?_
      show Steps p.tables e below (s₁.setTop (mkF m 1 #[.val (.ref a1)] [(.ref a1)])) _
      exact k)
  obtain ⟨T26, X26, e26, st26⟩ := getF X0 hx hZ hown (host := "") (Or.inl (hw _ (List.mem_of_getElem? (i := 18) rfl))) Via.refl e0 F2 (g := (mkF m 1 #[.val (.ref a1)] [(.ref a1)])) rfl rfl (hb hby d6_1)
  have pre26 : Goes p e below s₁ (entryFrame m #[(.ref a1)] 1) T26 (mkF m 4 #[.val (.ref a1)] [(.int n1)]) := fun t k => pre25 t (st26 _ k)
  obtain ⟨fs, hr, hrun, hended, hW, hsame⟩ := X26.leave (v := some (.int n1)) (fun h => by rw [Bd.returns] at h; cases h)
  refine ⟨_, _, pre26 _ (retI X26 hx Bd.returns (hb hby d6_4) hr), hrun, hended, _, _, rfl, ?_, ⟨_, rfl⟩, hW, hsame.mono (by decide) (by decide)⟩
  show Qn Z a1 n1 h0 n0 _ T26.heap _
  rw [e26]
  exact ⟨rfl, N0, rfl⟩
theorem own_ne (x y : Int64) (h : (0 : Int32) < lcmpW x y) : ¬ lcmpW x y = 0 := fun q => by rw [q] at h; exact absurd h (by decide)
theorem own_eq (x y : Int64) (h1 : ¬ lcmpW x y < 0) (h2 : ¬ (0 : Int32) < lcmpW x y) : lcmpW x y = 0 := by
  rw [lw_lt] at h1; rw [lw_gt] at h2; rw [lw_eq]
  rw [Int64.lt_iff_toInt_lt] at h1 h2
  exact Int64.toInt_inj.mp (by omega)
def Q0 (Z : State) (q1 : Int64) (p2 : Int32) (q3 q4 : Int64) (p5 : Int32) (h0 : Heap) (n0 : Nat) (v : Option Value) (h : Heap) (L : List Loc) : Prop := v = some (.int (1 : Int32)) ∧ Fr n0 L
theorem pn_0 : plainName "com/example/wakeline/wakeline/stream/MomentBeforePinLaw" = true := by first | (simp [plainName, overriddenIn]; done) | decide +kernel
theorem ef_0 (m : MethodId) (q1 : Int64) (p2 : Int32) (q3 : Int64) (q4 : Int64) (p5 : Int32) : entryFrame m #[(.long q1), (.int p2), (.long q3), (.long q4), (.int p5)] maxLocals = mkF m 0 #[.val (.long q1), .second, .val (.int p2), .val (.long q3), .second, .val (.long q4), .second, .val (.int p5), .unset, .unset, .unset, .unset, .unset, .unset, .unset, .unset] [] := by first | (simp [entryFrame, mkF, argsToLocals, Value.category, maxLocals]; done) | rfl
set_option maxRecDepth 65536 in
set_option maxHeartbeats 40000000 in
theorem rm0 (l : Launch) (Z : State) (a0 : Array Value) (hw : ∀ d ∈ tables_1, d.before a0 Z = true) (ws : List Jvm.Cond) (q1 : Int64) (p2 : Int32) (q3 : Int64) (q4 : Int64) (p5 : Int32)  (h0 : Heap) (n0 : Nat) (Z0 : n0 ≤ h0.size)  :
    MetFree l x (head1 (Jvm.Cond.code x code maxLocals ret :: ws) room_1) (fun a U => a = #[(.long q1), (.int p2), (.long q3), (.long q4), (.int p5)] ∧ Z.Warmed39 U.vm ∧ U.heap = h0) (fun _ _ _ _ _ => True) (fun _ U o U' => ∃ v L, o = .returned v ∧ Q0 Z q1 p2 q3 q4 p5 h0 n0 v U'.heap L ∧ FrameEnd U o U' L room_1.cells room_1.slots) := by
  refine MetFree.of_bodySF (plainFor_of_name pn_0) hisR ?_
  intro p e s m args below meth c s₁ Bd hml0 hP hK
  obtain ⟨rfl, hZ, hh⟩ := hP
  have hx := Bd.exec
  have hby := Bd.bytes
  have hml : c.maxLocals = 16 := hml0
  have hown : s.vm.findClass "com/example/wakeline/wakeline/stream/MomentBeforePinLaw" = some m.cls := findClass_of_methodNamed Bd.named
  have hnm := (name_of_methodNamed Bd.named Bd.method).1
  have X0 : Stand p l e room_1 s m #[(.long q1), (.int p2), (.long q3), (.long q4), (.int p5)] below meth c s₁ [] 0 0 := Stand.of_body Bd
  have e0 : s₁.heap = h0 := by rw [← hh, Bd.state]; rfl
  have N0 := Fr.nil n0
  have pre0 : Goes p e below s₁ (entryFrame m #[(.long q1), (.int p2), (.long q3), (.long q4), (.int p5)] maxLocals) s₁ (mkF m 0 #[.val (.long q1), .second, .val (.int p2), .val (.long q3), .second, .val (.long q4), .second, .val (.int p5), .unset, .unset, .unset, .unset, .unset, .unset, .unset, .unset] []) := fun t k => castTop (ef_0 m q1 p2 q3 q4 p5) k
  have pre27 : Goes p e below s₁ (entryFrame m #[(.long q1), (.int p2), (.long q3), (.long q4), (.int p5)] maxLocals) s₁ (mkF m 9 #[.val (.long q1), .second, .val (.int p2), .val (.long q3), .second, .val (.long q4), .second, .val (.int p5), .val (.int ((p2 &&& (2147483647 : Int32)) % (1000000000 : Int32))), .unset, .unset, .unset, .unset, .unset, .unset, .unset] []) := fun t k => pre0 t (by
      refine XS.iloadN X0.here hx rfl (hb hby at_0) rfl ?_
      show Steps p.tables e below (s₁.setTop (mkF m 1 #[.val (.long q1), .second, .val (.int p2), .val (.long q3), .second, .val (.long q4), .second, .val (.int p5), .unset, .unset, .unset, .unset, .unset, .unset, .unset, .unset] [(.int p2)])) _
      refine X0.ldcInt hx hown (mvT hZ (hw _ (List.mem_of_getElem? (i := 0) rfl))) (g := (mkF m 1 #[.val (.long q1), .second, .val (.int p2), .val (.long q3), .second, .val (.long q4), .second, .val (.int p5), .unset, .unset, .unset, .unset, .unset, .unset, .unset, .unset] [(.int p2)])) rfl (hb hby at_1) _ ?_
      show Steps p.tables e below (s₁.setTop (mkF m 3 #[.val (.long q1), .second, .val (.int p2), .val (.long q3), .second, .val (.long q4), .second, .val (.int p5), .unset, .unset, .unset, .unset, .unset, .unset, .unset, .unset] [(.int (2147483647 : Int32)), (.int p2)])) _
      refine XS.iand X0.here hx rfl (hb hby at_3) rfl ?_
      show Steps p.tables e below (s₁.setTop (mkF m 4 #[.val (.long q1), .second, .val (.int p2), .val (.long q3), .second, .val (.long q4), .second, .val (.int p5), .unset, .unset, .unset, .unset, .unset, .unset, .unset, .unset] [(.int (p2 &&& (2147483647 : Int32)))])) _
      refine X0.ldcInt hx hown (mvT hZ (hw _ (List.mem_of_getElem? (i := 1) rfl))) (g := (mkF m 4 #[.val (.long q1), .second, .val (.int p2), .val (.long q3), .second, .val (.long q4), .second, .val (.int p5), .unset, .unset, .unset, .unset, .unset, .unset, .unset, .unset] [(.int (p2 &&& (2147483647 : Int32)))])) rfl (hb hby at_4) _ ?_
      show Steps p.tables e below (s₁.setTop (mkF m 6 #[.val (.long q1), .second, .val (.int p2), .val (.long q3), .second, .val (.long q4), .second, .val (.int p5), .unset, .unset, .unset, .unset, .unset, .unset, .unset, .unset] [(.int (1000000000 : Int32)), (.int (p2 &&& (2147483647 : Int32)))])) _
      refine iremM X0 hx rfl (hb hby at_6) rfl (by decide) ?_
      show Steps p.tables e below (s₁.setTop (mkF m 7 #[.val (.long q1), .second, .val (.int p2), .val (.long q3), .second, .val (.long q4), .second, .val (.int p5), .unset, .unset, .unset, .unset, .unset, .unset, .unset, .unset] [(.int ((p2 &&& (2147483647 : Int32)) % (1000000000 : Int32)))])) _
      refine XS.istore X0.here hx rfl (hb hby at_7) rfl (l' := #[.val (.long q1), .second, .val (.int p2), .val (.long q3), .second, .val (.long q4), .second, .val (.int p5), .val (.int ((p2 &&& (2147483647 : Int32)) % (1000000000 : Int32))), .unset, .unset, .unset, .unset, .unset, .unset, .unset]) rfl ?_
      show Steps p.tables e below (s₁.setTop (mkF m 9 #[.val (.long q1), .second, .val (.int p2), .val (.long q3), .second, .val (.long q4), .second, .val (.int p5), .val (.int ((p2 &&& (2147483647 : Int32)) % (1000000000 : Int32))), .unset, .unset, .unset, .unset, .unset, .unset, .unset] [])) _
      exact k)
  obtain ⟨m1, hm1⟩ : ∃ z, z = ((p2 &&& (2147483647 : Int32)) % (1000000000 : Int32)) := ⟨_, rfl⟩
  rw [← hm1] at pre27
  obtain ⟨s2, pre28⟩ : ∃ s2 : Int64, Goes p e below s₁ (entryFrame m #[(.long q1), (.int p2), (.long q3), (.long q4), (.int p5)] maxLocals) s₁ (mkF m 56 #[.val (.long q1), .second, .val (.int p2), .val (.long q3), .second, .val (.long q4), .second, .val (.int p5), .val (.int m1), .val (.long s2), .second, .unset, .unset, .unset, .unset, .unset] []) := by
    have pre29 : Goes p e below s₁ (entryFrame m #[(.long q1), (.int p2), (.long q3), (.long q4), (.int p5)] maxLocals) s₁ (mkF m 13 #[.val (.long q1), .second, .val (.int p2), .val (.long q3), .second, .val (.long q4), .second, .val (.int p5), .val (.int m1), .unset, .unset, .unset, .unset, .unset, .unset, .unset] [(.int (p5 &&& (1 : Int32)))]) := fun t k => pre27 t (by
        refine XS.iload X0.here hx rfl (hb hby at_9) rfl ?_
        show Steps p.tables e below (s₁.setTop (mkF m 11 #[.val (.long q1), .second, .val (.int p2), .val (.long q3), .second, .val (.long q4), .second, .val (.int p5), .val (.int m1), .unset, .unset, .unset, .unset, .unset, .unset, .unset] [(.int p5)])) _
        refine XS.iconst X0.here hx rfl (hb hby at_11) ?_
        show Steps p.tables e below (s₁.setTop (mkF m 12 #[.val (.long q1), .second, .val (.int p2), .val (.long q3), .second, .val (.long q4), .second, .val (.int p5), .val (.int m1), .unset, .unset, .unset, .unset, .unset, .unset, .unset] [(.int (1 : Int32)), (.int p5)])) _
        refine XS.iand X0.here hx rfl (hb hby at_12) rfl ?_
        show Steps p.tables e below (s₁.setTop (mkF m 13 #[.val (.long q1), .second, .val (.int p2), .val (.long q3), .second, .val (.long q4), .second, .val (.int p5), .val (.int m1), .unset, .unset, .unset, .unset, .unset, .unset, .unset] [(.int (p5 &&& (1 : Int32)))])) _
        exact k)
    by_cases hc30 : (p5 &&& (1 : Int32)) = (0 : Int32)
    · skip
      have pre31 : Goes p e below s₁ (entryFrame m #[(.long q1), (.int p2), (.long q3), (.long q4), (.int p5)] maxLocals) s₁ (mkF m 26 #[.val (.long q1), .second, .val (.int p2), .val (.long q3), .second, .val (.long q4), .second, .val (.int p5), .val (.int m1), .unset, .unset, .unset, .unset, .unset, .unset, .unset] [(.int (p5 &&& (4 : Int32)))]) := fun t k => pre29 t (by
          refine XS.ifYes X0.here hx rfl (pc0 := 13) (pc' := 22) rfl (hb hby at_13) rfl ((if0 _ _).trans (teq hc30).1) (by decide) (by decide) ?_
          show Steps p.tables e below (s₁.setTop (mkF m 22 #[.val (.long q1), .second, .val (.int p2), .val (.long q3), .second, .val (.long q4), .second, .val (.int p5), .val (.int m1), .unset, .unset, .unset, .unset, .unset, .unset, .unset] [])) _
          refine XS.iload X0.here hx rfl (hb hby at_22) rfl ?_
          show Steps p.tables e below (s₁.setTop (mkF m 24 #[.val (.long q1), .second, .val (.int p2), .val (.long q3), .second, .val (.long q4), .second, .val (.int p5), .val (.int m1), .unset, .unset, .unset, .unset, .unset, .unset, .unset] [(.int p5)])) _
          refine XS.iconst X0.here hx rfl (hb hby at_24) ?_
          show Steps p.tables e below (s₁.setTop (mkF m 25 #[.val (.long q1), .second, .val (.int p2), .val (.long q3), .second, .val (.long q4), .second, .val (.int p5), .val (.int m1), .unset, .unset, .unset, .unset, .unset, .unset, .unset] [(.int (4 : Int32)), (.int p5)])) _
          refine XS.iand X0.here hx rfl (hb hby at_25) rfl ?_
          show Steps p.tables e below (s₁.setTop (mkF m 26 #[.val (.long q1), .second, .val (.int p2), .val (.long q3), .second, .val (.long q4), .second, .val (.int p5), .val (.int m1), .unset, .unset, .unset, .unset, .unset, .unset, .unset] [(.int (p5 &&& (4 : Int32)))])) _
          exact k)
      by_cases hc32 : (p5 &&& (4 : Int32)) = (0 : Int32)
      · skip
        have pre33 : Goes p e below s₁ (entryFrame m #[(.long q1), (.int p2), (.long q3), (.long q4), (.int p5)] maxLocals) s₁ (mkF m 42 #[.val (.long q1), .second, .val (.int p2), .val (.long q3), .second, .val (.long q4), .second, .val (.int p5), .val (.int m1), .unset, .unset, .unset, .unset, .unset, .unset, .unset] [(.int (p5 &&& (8 : Int32)))]) := fun t k => pre31 t (by
            refine XS.ifYes X0.here hx rfl (pc0 := 26) (pc' := 37) rfl (hb hby at_26) rfl ((if0 _ _).trans (teq hc32).1) (by decide) (by decide) ?_
            show Steps p.tables e below (s₁.setTop (mkF m 37 #[.val (.long q1), .second, .val (.int p2), .val (.long q3), .second, .val (.long q4), .second, .val (.int p5), .val (.int m1), .unset, .unset, .unset, .unset, .unset, .unset, .unset] [])) _
            refine XS.iload X0.here hx rfl (hb hby at_37) rfl ?_
            show Steps p.tables e below (s₁.setTop (mkF m 39 #[.val (.long q1), .second, .val (.int p2), .val (.long q3), .second, .val (.long q4), .second, .val (.int p5), .val (.int m1), .unset, .unset, .unset, .unset, .unset, .unset, .unset] [(.int p5)])) _
            refine XS.bipush X0.here hx rfl (hb hby at_39) ?_
            show Steps p.tables e below (s₁.setTop (mkF m 41 #[.val (.long q1), .second, .val (.int p2), .val (.long q3), .second, .val (.long q4), .second, .val (.int p5), .val (.int m1), .unset, .unset, .unset, .unset, .unset, .unset, .unset] [(.int (8 : Int32)), (.int p5)])) _
            refine XS.iand X0.here hx rfl (hb hby at_41) rfl ?_
            show Steps p.tables e below (s₁.setTop (mkF m 42 #[.val (.long q1), .second, .val (.int p2), .val (.long q3), .second, .val (.long q4), .second, .val (.int p5), .val (.int m1), .unset, .unset, .unset, .unset, .unset, .unset, .unset] [(.int (p5 &&& (8 : Int32)))])) _
            exact k)
        by_cases hc34 : (p5 &&& (8 : Int32)) = (0 : Int32)
        · skip
          have pre35 : Goes p e below s₁ (entryFrame m #[(.long q1), (.int p2), (.long q3), (.long q4), (.int p5)] maxLocals) s₁ (mkF m 56 #[.val (.long q1), .second, .val (.int p2), .val (.long q3), .second, .val (.long q4), .second, .val (.int p5), .val (.int m1), .val (.long q3), .second, .unset, .unset, .unset, .unset, .unset] []) := fun t k => pre33 t (by
              refine XS.ifYes X0.here hx rfl (pc0 := 42) (pc' := 53) rfl (hb hby at_42) rfl ((if0 _ _).trans (teq hc34).1) (by decide) (by decide) ?_
              show Steps p.tables e below (s₁.setTop (mkF m 53 #[.val (.long q1), .second, .val (.int p2), .val (.long q3), .second, .val (.long q4), .second, .val (.int p5), .val (.int m1), .unset, .unset, .unset, .unset, .unset, .unset, .unset] [])) _
              refine XS.lloadN X0.here hx rfl (hb hby at_53) rfl ?_
              show Steps p.tables e below (s₁.setTop (mkF m 54 #[.val (.long q1), .second, .val (.int p2), .val (.long q3), .second, .val (.long q4), .second, .val (.int p5), .val (.int m1), .unset, .unset, .unset, .unset, .unset, .unset, .unset] [(.long q3)])) _
              refine XS.lstore X0.here hx rfl (hb hby at_54) rfl (l' := #[.val (.long q1), .second, .val (.int p2), .val (.long q3), .second, .val (.long q4), .second, .val (.int p5), .val (.int m1), .val (.long q3), .second, .unset, .unset, .unset, .unset, .unset]) rfl ?_
              show Steps p.tables e below (s₁.setTop (mkF m 56 #[.val (.long q1), .second, .val (.int p2), .val (.long q3), .second, .val (.long q4), .second, .val (.int p5), .val (.int m1), .val (.long q3), .second, .unset, .unset, .unset, .unset, .unset] [])) _
              exact k)
          exact ⟨_, pre35⟩
        · skip
          have pre36 : Goes p e below s₁ (entryFrame m #[(.long q1), (.int p2), (.long q3), (.long q4), (.int p5)] maxLocals) s₁ (mkF m 56 #[.val (.long q1), .second, .val (.int p2), .val (.long q3), .second, .val (.long q4), .second, .val (.int p5), .val (.int m1), .val (.long (q1 - (1 : Int64))), .second, .unset, .unset, .unset, .unset, .unset] []) := fun t k => pre33 t (by
              refine XS.ifNo X0.here hx rfl (hb hby at_42) rfl ((if0 _ _).trans (feq hc34).1) ?_
              show Steps p.tables e below (s₁.setTop (mkF m 45 #[.val (.long q1), .second, .val (.int p2), .val (.long q3), .second, .val (.long q4), .second, .val (.int p5), .val (.int m1), .unset, .unset, .unset, .unset, .unset, .unset, .unset] [])) _
              refine XS.lloadN X0.here hx rfl (hb hby at_45) rfl ?_
              show Steps p.tables e below (s₁.setTop (mkF m 46 #[.val (.long q1), .second, .val (.int p2), .val (.long q3), .second, .val (.long q4), .second, .val (.int p5), .val (.int m1), .unset, .unset, .unset, .unset, .unset, .unset, .unset] [(.long q1)])) _
              refine XS.lconst X0.here hx rfl (hb hby at_46) ?_
              show Steps p.tables e below (s₁.setTop (mkF m 47 #[.val (.long q1), .second, .val (.int p2), .val (.long q3), .second, .val (.long q4), .second, .val (.int p5), .val (.int m1), .unset, .unset, .unset, .unset, .unset, .unset, .unset] [(.long (1 : Int64)), (.long q1)])) _
              refine XS.lsub X0.here hx rfl (hb hby at_47) rfl ?_
              show Steps p.tables e below (s₁.setTop (mkF m 48 #[.val (.long q1), .second, .val (.int p2), .val (.long q3), .second, .val (.long q4), .second, .val (.int p5), .val (.int m1), .unset, .unset, .unset, .unset, .unset, .unset, .unset] [(.long (q1 - (1 : Int64)))])) _
              refine XS.lstore X0.here hx rfl (hb hby at_48) rfl (l' := #[.val (.long q1), .second, .val (.int p2), .val (.long q3), .second, .val (.long q4), .second, .val (.int p5), .val (.int m1), .val (.long (q1 - (1 : Int64))), .second, .unset, .unset, .unset, .unset, .unset]) rfl ?_
              show Steps p.tables e below (s₁.setTop (mkF m 50 #[.val (.long q1), .second, .val (.int p2), .val (.long q3), .second, .val (.long q4), .second, .val (.int p5), .val (.int m1), .val (.long (q1 - (1 : Int64))), .second, .unset, .unset, .unset, .unset, .unset] [])) _
              refine XS.goto X0.here hx rfl (pc0 := 50) (pc' := 56) rfl (hb hby at_50) (by decide) (by decide) ?_
              show Steps p.tables e below (s₁.setTop (mkF m 56 #[.val (.long q1), .second, .val (.int p2), .val (.long q3), .second, .val (.long q4), .second, .val (.int p5), .val (.int m1), .val (.long (q1 - (1 : Int64))), .second, .unset, .unset, .unset, .unset, .unset] [])) _
              exact k)
          exact ⟨_, pre36⟩
      · skip
        have pre37 : Goes p e below s₁ (entryFrame m #[(.long q1), (.int p2), (.long q3), (.long q4), (.int p5)] maxLocals) s₁ (mkF m 56 #[.val (.long q1), .second, .val (.int p2), .val (.long q3), .second, .val (.long q4), .second, .val (.int p5), .val (.int m1), .val (.long (q1 + (1 : Int64))), .second, .unset, .unset, .unset, .unset, .unset] []) := fun t k => pre31 t (by
            refine XS.ifNo X0.here hx rfl (hb hby at_26) rfl ((if0 _ _).trans (feq hc32).1) ?_
            show Steps p.tables e below (s₁.setTop (mkF m 29 #[.val (.long q1), .second, .val (.int p2), .val (.long q3), .second, .val (.long q4), .second, .val (.int p5), .val (.int m1), .unset, .unset, .unset, .unset, .unset, .unset, .unset] [])) _
            refine XS.lloadN X0.here hx rfl (hb hby at_29) rfl ?_
            show Steps p.tables e below (s₁.setTop (mkF m 30 #[.val (.long q1), .second, .val (.int p2), .val (.long q3), .second, .val (.long q4), .second, .val (.int p5), .val (.int m1), .unset, .unset, .unset, .unset, .unset, .unset, .unset] [(.long q1)])) _
            refine XS.lconst X0.here hx rfl (hb hby at_30) ?_
            show Steps p.tables e below (s₁.setTop (mkF m 31 #[.val (.long q1), .second, .val (.int p2), .val (.long q3), .second, .val (.long q4), .second, .val (.int p5), .val (.int m1), .unset, .unset, .unset, .unset, .unset, .unset, .unset] [(.long (1 : Int64)), (.long q1)])) _
            refine XS.ladd X0.here hx rfl (hb hby at_31) rfl ?_
            show Steps p.tables e below (s₁.setTop (mkF m 32 #[.val (.long q1), .second, .val (.int p2), .val (.long q3), .second, .val (.long q4), .second, .val (.int p5), .val (.int m1), .unset, .unset, .unset, .unset, .unset, .unset, .unset] [(.long (q1 + (1 : Int64)))])) _
            refine XS.lstore X0.here hx rfl (hb hby at_32) rfl (l' := #[.val (.long q1), .second, .val (.int p2), .val (.long q3), .second, .val (.long q4), .second, .val (.int p5), .val (.int m1), .val (.long (q1 + (1 : Int64))), .second, .unset, .unset, .unset, .unset, .unset]) rfl ?_
            show Steps p.tables e below (s₁.setTop (mkF m 34 #[.val (.long q1), .second, .val (.int p2), .val (.long q3), .second, .val (.long q4), .second, .val (.int p5), .val (.int m1), .val (.long (q1 + (1 : Int64))), .second, .unset, .unset, .unset, .unset, .unset] [])) _
            refine XS.goto X0.here hx rfl (pc0 := 34) (pc' := 56) rfl (hb hby at_34) (by decide) (by decide) ?_
            show Steps p.tables e below (s₁.setTop (mkF m 56 #[.val (.long q1), .second, .val (.int p2), .val (.long q3), .second, .val (.long q4), .second, .val (.int p5), .val (.int m1), .val (.long (q1 + (1 : Int64))), .second, .unset, .unset, .unset, .unset, .unset] [])) _
            exact k)
        exact ⟨_, pre37⟩
    · skip
      have pre38 : Goes p e below s₁ (entryFrame m #[(.long q1), (.int p2), (.long q3), (.long q4), (.int p5)] maxLocals) s₁ (mkF m 56 #[.val (.long q1), .second, .val (.int p2), .val (.long q3), .second, .val (.long q4), .second, .val (.int p5), .val (.int m1), .val (.long q1), .second, .unset, .unset, .unset, .unset, .unset] []) := fun t k => pre29 t (by
          refine XS.ifNo X0.here hx rfl (hb hby at_13) rfl ((if0 _ _).trans (feq hc30).1) ?_
          show Steps p.tables e below (s₁.setTop (mkF m 16 #[.val (.long q1), .second, .val (.int p2), .val (.long q3), .second, .val (.long q4), .second, .val (.int p5), .val (.int m1), .unset, .unset, .unset, .unset, .unset, .unset, .unset] [])) _
          refine XS.lloadN X0.here hx rfl (hb hby at_16) rfl ?_
          show Steps p.tables e below (s₁.setTop (mkF m 17 #[.val (.long q1), .second, .val (.int p2), .val (.long q3), .second, .val (.long q4), .second, .val (.int p5), .val (.int m1), .unset, .unset, .unset, .unset, .unset, .unset, .unset] [(.long q1)])) _
          refine XS.lstore X0.here hx rfl (hb hby at_17) rfl (l' := #[.val (.long q1), .second, .val (.int p2), .val (.long q3), .second, .val (.long q4), .second, .val (.int p5), .val (.int m1), .val (.long q1), .second, .unset, .unset, .unset, .unset, .unset]) rfl ?_
          show Steps p.tables e below (s₁.setTop (mkF m 19 #[.val (.long q1), .second, .val (.int p2), .val (.long q3), .second, .val (.long q4), .second, .val (.int p5), .val (.int m1), .val (.long q1), .second, .unset, .unset, .unset, .unset, .unset] [])) _
          refine XS.goto X0.here hx rfl (pc0 := 19) (pc' := 56) rfl (hb hby at_19) (by decide) (by decide) ?_
          show Steps p.tables e below (s₁.setTop (mkF m 56 #[.val (.long q1), .second, .val (.int p2), .val (.long q3), .second, .val (.long q4), .second, .val (.int p5), .val (.int m1), .val (.long q1), .second, .unset, .unset, .unset, .unset, .unset] [])) _
          exact k)
      exact ⟨_, pre38⟩
  obtain ⟨n2, pre39⟩ : ∃ n2 : Int64, Goes p e below s₁ (entryFrame m #[(.long q1), (.int p2), (.long q3), (.long q4), (.int p5)] maxLocals) s₁ (mkF m 81 #[.val (.long q1), .second, .val (.int p2), .val (.long q3), .second, .val (.long q4), .second, .val (.int p5), .val (.int m1), .val (.long s2), .second, .val (.long n2), .second, .unset, .unset, .unset] []) := by
    have pre40 : Goes p e below s₁ (entryFrame m #[(.long q1), (.int p2), (.long q3), (.long q4), (.int p5)] maxLocals) s₁ (mkF m 60 #[.val (.long q1), .second, .val (.int p2), .val (.long q3), .second, .val (.long q4), .second, .val (.int p5), .val (.int m1), .val (.long s2), .second, .unset, .unset, .unset, .unset, .unset] [(.int (p5 &&& (2 : Int32)))]) := fun t k => pre28 t (by
        refine XS.iload X0.here hx rfl (hb hby at_56) rfl ?_
        show Steps p.tables e below (s₁.setTop (mkF m 58 #[.val (.long q1), .second, .val (.int p2), .val (.long q3), .second, .val (.long q4), .second, .val (.int p5), .val (.int m1), .val (.long s2), .second, .unset, .unset, .unset, .unset, .unset] [(.int p5)])) _
        refine XS.iconst X0.here hx rfl (hb hby at_58) ?_
        show Steps p.tables e below (s₁.setTop (mkF m 59 #[.val (.long q1), .second, .val (.int p2), .val (.long q3), .second, .val (.long q4), .second, .val (.int p5), .val (.int m1), .val (.long s2), .second, .unset, .unset, .unset, .unset, .unset] [(.int (2 : Int32)), (.int p5)])) _
        refine XS.iand X0.here hx rfl (hb hby at_59) rfl ?_
        show Steps p.tables e below (s₁.setTop (mkF m 60 #[.val (.long q1), .second, .val (.int p2), .val (.long q3), .second, .val (.long q4), .second, .val (.int p5), .val (.int m1), .val (.long s2), .second, .unset, .unset, .unset, .unset, .unset] [(.int (p5 &&& (2 : Int32)))])) _
        exact k)
    by_cases hc41 : (p5 &&& (2 : Int32)) = (0 : Int32)
    · skip
      have pre42 : Goes p e below s₁ (entryFrame m #[(.long q1), (.int p2), (.long q3), (.long q4), (.int p5)] maxLocals) s₁ (mkF m 81 #[.val (.long q1), .second, .val (.int p2), .val (.long q3), .second, .val (.long q4), .second, .val (.int p5), .val (.int m1), .val (.long s2), .second, .val (.long ((q4 &&& (9223372036854775807 : Int64)) % (1000000000 : Int64))), .second, .unset, .unset, .unset] []) := fun t k => pre40 t (by
          refine XS.ifYes X0.here hx rfl (pc0 := 60) (pc' := 69) rfl (hb hby at_60) rfl ((if0 _ _).trans (teq hc41).1) (by decide) (by decide) ?_
          show Steps p.tables e below (s₁.setTop (mkF m 69 #[.val (.long q1), .second, .val (.int p2), .val (.long q3), .second, .val (.long q4), .second, .val (.int p5), .val (.int m1), .val (.long s2), .second, .unset, .unset, .unset, .unset, .unset] [])) _
          refine XS.lload X0.here hx rfl (hb hby at_69) rfl ?_
          show Steps p.tables e below (s₁.setTop (mkF m 71 #[.val (.long q1), .second, .val (.int p2), .val (.long q3), .second, .val (.long q4), .second, .val (.int p5), .val (.int m1), .val (.long s2), .second, .unset, .unset, .unset, .unset, .unset] [(.long q4)])) _
          refine X0.ldc2Long hx hown (mvT hZ (hw _ (List.mem_of_getElem? (i := 35) rfl))) (g := (mkF m 71 #[.val (.long q1), .second, .val (.int p2), .val (.long q3), .second, .val (.long q4), .second, .val (.int p5), .val (.int m1), .val (.long s2), .second, .unset, .unset, .unset, .unset, .unset] [(.long q4)])) rfl (hb hby at_71) _ ?_
          show Steps p.tables e below (s₁.setTop (mkF m 74 #[.val (.long q1), .second, .val (.int p2), .val (.long q3), .second, .val (.long q4), .second, .val (.int p5), .val (.int m1), .val (.long s2), .second, .unset, .unset, .unset, .unset, .unset] [(.long (9223372036854775807 : Int64)), (.long q4)])) _
          refine XS.land X0.here hx rfl (hb hby at_74) rfl ?_
          show Steps p.tables e below (s₁.setTop (mkF m 75 #[.val (.long q1), .second, .val (.int p2), .val (.long q3), .second, .val (.long q4), .second, .val (.int p5), .val (.int m1), .val (.long s2), .second, .unset, .unset, .unset, .unset, .unset] [(.long (q4 &&& (9223372036854775807 : Int64)))])) _
          refine X0.ldc2Long hx hown (mvT hZ (hw _ (List.mem_of_getElem? (i := 36) rfl))) (g := (mkF m 75 #[.val (.long q1), .second, .val (.int p2), .val (.long q3), .second, .val (.long q4), .second, .val (.int p5), .val (.int m1), .val (.long s2), .second, .unset, .unset, .unset, .unset, .unset] [(.long (q4 &&& (9223372036854775807 : Int64)))])) rfl (hb hby at_75) _ ?_
          show Steps p.tables e below (s₁.setTop (mkF m 78 #[.val (.long q1), .second, .val (.int p2), .val (.long q3), .second, .val (.long q4), .second, .val (.int p5), .val (.int m1), .val (.long s2), .second, .unset, .unset, .unset, .unset, .unset] [(.long (1000000000 : Int64)), (.long (q4 &&& (9223372036854775807 : Int64)))])) _
          refine lremM X0 hx rfl (hb hby at_78) rfl (by decide) ?_
          show Steps p.tables e below (s₁.setTop (mkF m 79 #[.val (.long q1), .second, .val (.int p2), .val (.long q3), .second, .val (.long q4), .second, .val (.int p5), .val (.int m1), .val (.long s2), .second, .unset, .unset, .unset, .unset, .unset] [(.long ((q4 &&& (9223372036854775807 : Int64)) % (1000000000 : Int64)))])) _
          refine XS.lstore X0.here hx rfl (hb hby at_79) rfl (l' := #[.val (.long q1), .second, .val (.int p2), .val (.long q3), .second, .val (.long q4), .second, .val (.int p5), .val (.int m1), .val (.long s2), .second, .val (.long ((q4 &&& (9223372036854775807 : Int64)) % (1000000000 : Int64))), .second, .unset, .unset, .unset]) rfl ?_
          show Steps p.tables e below (s₁.setTop (mkF m 81 #[.val (.long q1), .second, .val (.int p2), .val (.long q3), .second, .val (.long q4), .second, .val (.int p5), .val (.int m1), .val (.long s2), .second, .val (.long ((q4 &&& (9223372036854775807 : Int64)) % (1000000000 : Int64))), .second, .unset, .unset, .unset] [])) _
          exact k)
      exact ⟨_, pre42⟩
    · skip
      have pre43 : Goes p e below s₁ (entryFrame m #[(.long q1), (.int p2), (.long q3), (.long q4), (.int p5)] maxLocals) s₁ (mkF m 81 #[.val (.long q1), .second, .val (.int p2), .val (.long q3), .second, .val (.long q4), .second, .val (.int p5), .val (.int m1), .val (.long s2), .second, .val (.long (m1.toInt64)), .second, .unset, .unset, .unset] []) := fun t k => pre40 t (by
          refine XS.ifNo X0.here hx rfl (hb hby at_60) rfl ((if0 _ _).trans (feq hc41).1) ?_
          show Steps p.tables e below (s₁.setTop (mkF m 63 #[.val (.long q1), .second, .val (.int p2), .val (.long q3), .second, .val (.long q4), .second, .val (.int p5), .val (.int m1), .val (.long s2), .second, .unset, .unset, .unset, .unset, .unset] [])) _
          refine XS.iload X0.here hx rfl (hb hby at_63) rfl ?_
          show Steps p.tables e below (s₁.setTop (mkF m 65 #[.val (.long q1), .second, .val (.int p2), .val (.long q3), .second, .val (.long q4), .second, .val (.int p5), .val (.int m1), .val (.long s2), .second, .unset, .unset, .unset, .unset, .unset] [(.int m1)])) _
          refine XS.i2l X0.here hx rfl (hb hby at_65) rfl ?_
          show Steps p.tables e below (s₁.setTop (mkF m 66 #[.val (.long q1), .second, .val (.int p2), .val (.long q3), .second, .val (.long q4), .second, .val (.int p5), .val (.int m1), .val (.long s2), .second, .unset, .unset, .unset, .unset, .unset] [(.long (m1.toInt64))])) _
          refine XS.goto X0.here hx rfl (pc0 := 66) (pc' := 79) rfl (hb hby at_66) (by decide) (by decide) ?_
          show Steps p.tables e below (s₁.setTop (mkF m 79 #[.val (.long q1), .second, .val (.int p2), .val (.long q3), .second, .val (.long q4), .second, .val (.int p5), .val (.int m1), .val (.long s2), .second, .unset, .unset, .unset, .unset, .unset] [(.long (m1.toInt64))])) _
          refine XS.lstore X0.here hx rfl (hb hby at_79) rfl (l' := #[.val (.long q1), .second, .val (.int p2), .val (.long q3), .second, .val (.long q4), .second, .val (.int p5), .val (.int m1), .val (.long s2), .second, .val (.long (m1.toInt64)), .second, .unset, .unset, .unset]) rfl ?_
          show Steps p.tables e below (s₁.setTop (mkF m 81 #[.val (.long q1), .second, .val (.int p2), .val (.long q3), .second, .val (.long q4), .second, .val (.int p5), .val (.int m1), .val (.long s2), .second, .val (.long (m1.toInt64)), .second, .unset, .unset, .unset] [])) _
          exact k)
      exact ⟨_, pre43⟩
  obtain ⟨T44, h44, X44, e44, E44, A44, D44, -, st44⟩ := newO X0 hx hZ hown (hw _ (List.mem_of_getElem? (i := 2) rfl)) (hw _ (List.mem_of_getElem? (i := 3) rfl)) (hw _ (List.mem_of_getElem? (i := 4) rfl)) e0 (g := (mkF m 81 #[.val (.long q1), .second, .val (.int p2), .val (.long q3), .second, .val (.long q4), .second, .val (.int p5), .val (.int m1), .val (.long s2), .second, .val (.long n2), .second, .unset, .unset, .unset] [])) rfl (hb hby at_81) (by decide) (by decide)
  obtain ⟨b44, g44⟩ : ∃ z, z = h0.size := ⟨_, rfl⟩
  rw [← g44] at A44 D44 st44
  have pre44 : Goes p e below s₁ (entryFrame m #[(.long q1), (.int p2), (.long q3), (.long q4), (.int p5)] maxLocals) T44 (mkF m 84 #[.val (.long q1), .second, .val (.int p2), .val (.long q3), .second, .val (.long q4), .second, .val (.int p5), .val (.int m1), .val (.long s2), .second, .val (.long n2), .second, .unset, .unset, .unset] [(.ref b44)]) := fun t k => pre39 t (st44 _ k)
  have F_seconds_b44 : Fld Z h44 b44 "com/example/wakeline/wakeline/stream/Moment" "seconds" "J" (.long (0 : Int64)) := D44 (Or.inl (hw _ (List.mem_of_getElem? (i := 17) rfl))) (ty := .long) (by decide)
  have F_nanos_b44 : Fld Z h44 b44 "com/example/wakeline/wakeline/stream/Moment" "nanos" "I" (.int (0 : Int32)) := D44 (Or.inl (hw _ (List.mem_of_getElem? (i := 19) rfl))) (ty := .int) (by decide)
  have Za : n0 ≤ h44.size := Nat.le_trans Z0 E44.1
  have ga : n0 ≤ b44 := Nat.le_trans Z0 (Nat.le_of_eq g44.symm)
  have pre45 : Goes p e below s₁ (entryFrame m #[(.long q1), (.int p2), (.long q3), (.long q4), (.int p5)] maxLocals) T44 (mkF m 85 #[.val (.long q1), .second, .val (.int p2), .val (.long q3), .second, .val (.long q4), .second, .val (.int p5), .val (.int m1), .val (.long s2), .second, .val (.long n2), .second, .unset, .unset, .unset] [(.ref b44), (.ref b44)]) := fun t k => pre44 t (by
      refine XS.dup X44.here hx rfl (hb hby at_84) rfl rfl ?_
      show Steps p.tables e below (T44.setTop (mkF m 85 #[.val (.long q1), .second, .val (.int p2), .val (.long q3), .second, .val (.long q4), .second, .val (.int p5), .val (.int m1), .val (.long s2), .second, .val (.long n2), .second, .unset, .unset, .unset] [(.ref b44), (.ref b44)])) _
      exact k)
  obtain ⟨_, _, ⟨T46, L46, k46, n46⟩, -, X46, ⟨Lc46, hQ46, l46, y46, z46⟩, st46⟩ := X44.specialBack hx (y := (⟨"com/example/wakeline/wakeline/stream/Moment", "<init>", "()V"⟩ : MethodName)) rfl hown (mvT hZ (hw _ (List.mem_of_getElem? (i := 5) rfl))) (mvT hZ (hw _ (List.mem_of_getElem? (i := 6) rfl))) (mvT hZ (hw _ (List.mem_of_getElem? (i := 7) rfl))) (by decide) (backOf (W := 1) (rmi l Z a0 hw [] b44 h44 n0 Za) hZ (hw _ (List.mem_of_getElem? (i := 7) rfl)) (hw _ (List.mem_of_getElem? (i := 4) rfl)) (by decide) (by decide)) (g := (mkF m 85 #[.val (.long q1), .second, .val (.int p2), .val (.long q3), .second, .val (.long q4), .second, .val (.int p5), .val (.int m1), .val (.long s2), .second, .val (.long n2), .second, .unset, .unset, .unset] [(.ref b44), (.ref b44)])) rfl (by rw [hml]; rfl) (Steps.refl _) (a := b44) (argsL := []) (rest := [(.ref b44)]) (lenOf pd_0 rfl) rfl (by show 2 * 0 + _ ≤ _; exact Nat.le_of_eq rfl) (hb hby at_85) (fun _ _ => ⟨rfl, e44, (by decide : 1 + 0 ≤ _), (by decide : 2 + 0 ≤ _)⟩)
  dsimp only [Pt.U, Pt.locs, Pt.cells, Pt.slots] at X46 l46 y46 z46 st46 hQ46
  subst l46 y46 z46
  obtain ⟨rfl, N46q, eh46⟩ := hQ46
  have N46 := Fr.app N0 N46q
  have pre46 : Goes p e below s₁ (entryFrame m #[(.long q1), (.int p2), (.long q3), (.long q4), (.int p5)] maxLocals) T46 (mkF m 88 #[.val (.long q1), .second, .val (.int p2), .val (.long q3), .second, .val (.long q4), .second, .val (.int p5), .val (.int m1), .val (.long s2), .second, .val (.long n2), .second, .unset, .unset, .unset] [(.ref b44)]) := fun t k => pre45 t (st46.trans k)
  have pre47 : Goes p e below s₁ (entryFrame m #[(.long q1), (.int p2), (.long q3), (.long q4), (.int p5)] maxLocals) T46 (mkF m 95 #[.val (.long q1), .second, .val (.int p2), .val (.long q3), .second, .val (.long q4), .second, .val (.int p5), .val (.int m1), .val (.long s2), .second, .val (.long n2), .second, .val (.ref b44), .unset, .unset] [(.int m1), (.long q1), (.ref b44)]) := fun t k => pre46 t (by
      refine XS.astore X46.here hx rfl (hb hby at_88) rfl rfl (l' := #[.val (.long q1), .second, .val (.int p2), .val (.long q3), .second, .val (.long q4), .second, .val (.int p5), .val (.int m1), .val (.long s2), .second, .val (.long n2), .second, .val (.ref b44), .unset, .unset]) rfl ?_
      show Steps p.tables e below (T46.setTop (mkF m 90 #[.val (.long q1), .second, .val (.int p2), .val (.long q3), .second, .val (.long q4), .second, .val (.int p5), .val (.int m1), .val (.long s2), .second, .val (.long n2), .second, .val (.ref b44), .unset, .unset] [])) _
      refine XS.aload X46.here hx rfl (hb hby at_90) rfl rfl ?_
      show Steps p.tables e below (T46.setTop (mkF m 92 #[.val (.long q1), .second, .val (.int p2), .val (.long q3), .second, .val (.long q4), .second, .val (.int p5), .val (.int m1), .val (.long s2), .second, .val (.long n2), .second, .val (.ref b44), .unset, .unset] [(.ref b44)])) _
      refine XS.lloadN X46.here hx rfl (hb hby at_92) rfl ?_
      show Steps p.tables e below (T46.setTop (mkF m 93 #[.val (.long q1), .second, .val (.int p2), .val (.long q3), .second, .val (.long q4), .second, .val (.int p5), .val (.int m1), .val (.long s2), .second, .val (.long n2), .second, .val (.ref b44), .unset, .unset] [(.long q1), (.ref b44)])) _
      refine XS.iload X46.here hx rfl (hb hby at_93) rfl ?_
      show Steps p.tables e below (T46.setTop (mkF m 95 #[.val (.long q1), .second, .val (.int p2), .val (.long q3), .second, .val (.long q4), .second, .val (.int p5), .val (.int m1), .val (.long s2), .second, .val (.long n2), .second, .val (.ref b44), .unset, .unset] [(.int m1), (.long q1), (.ref b44)])) _
      exact k)
  obtain ⟨cq48, kq48, q48a, q48b, q48c⟩ := isOf hZ eh46 A44
  obtain ⟨_, _, ⟨T48, L48, k48, n48⟩, -, X48, ⟨Lc48, hQ48, l48, y48, z48⟩, st48⟩ := X46.virtualBack hx (y := (⟨"com/example/wakeline/wakeline/stream/Moment", "set", "(JI)V"⟩ : MethodName)) (z := (⟨"com/example/wakeline/wakeline/stream/Moment", "set", "(JI)V"⟩ : MethodName)) hown (mvT hZ (hw _ (List.mem_of_getElem? (i := 11) rfl))) (mvT hZ (hw _ (List.mem_of_getElem? (i := 12) rfl))) (notFace_of_selects (args := #[]) (mvT hZ (hw _ (List.mem_of_getElem? (i := 14) rfl)))) (mvT hZ (hw _ (List.mem_of_getElem? (i := 14) rfl))) (mvT hZ (hw _ (List.mem_of_getElem? (i := 13) rfl))) (by decide) (backOf (W := 0) (rms l Z a0 hw [] b44 q1 m1 (.long (0 : Int64)) (.int (0 : Int32)) h44 n0 Za A44 F_seconds_b44 F_nanos_b44 ga) hZ (hw _ (List.mem_of_getElem? (i := 15) rfl)) (hw _ (List.mem_of_getElem? (i := 4) rfl)) (by decide) (by decide)) q48a q48c (g := (mkF m 95 #[.val (.long q1), .second, .val (.int p2), .val (.long q3), .second, .val (.long q4), .second, .val (.int p5), .val (.int m1), .val (.long s2), .second, .val (.long n2), .second, .val (.ref b44), .unset, .unset] [(.int m1), (.long q1), (.ref b44)])) rfl (by rw [hml]; rfl) (Steps.refl _) (argsL := [(.long q1), (.int m1)]) (rest := []) (lenOf pd_1 rfl) rfl (by show 2 * 0 + _ ≤ _; exact Nat.le_of_eq rfl) (hb hby at_95) (fun _ _ => ⟨rfl, eh46, (by decide : 1 + 0 ≤ _), (by decide : 2 + 0 ≤ _)⟩)
  dsimp only [Pt.U, Pt.locs, Pt.cells, Pt.slots] at X48 l48 y48 z48 st48 hQ48
  subst l48 y48 z48
  obtain ⟨rfl, N48q, eh48⟩ := hQ48
  have N48 := Fr.app N46 N48q
  have pre48 : Goes p e below s₁ (entryFrame m #[(.long q1), (.int p2), (.long q3), (.long q4), (.int p5)] maxLocals) T48 (mkF m 98 #[.val (.long q1), .second, .val (.int p2), .val (.long q3), .second, .val (.long q4), .second, .val (.int p5), .val (.int m1), .val (.long s2), .second, .val (.long n2), .second, .val (.ref b44), .unset, .unset] []) := fun t k => pre47 t (st48.trans k)
  obtain ⟨Ks, Es, Fs, Fn⟩ := eh48
  have Zb : n0 ≤ T48.heap.size := Nat.le_trans Za Ks.1
  have pre49 : Goes p e below s₁ (entryFrame m #[(.long q1), (.int p2), (.long q3), (.long q4), (.int p5)] maxLocals) T48 (mkF m 104 #[.val (.long q1), .second, .val (.int p2), .val (.long q3), .second, .val (.long q4), .second, .val (.int p5), .val (.int m1), .val (.long s2), .second, .val (.long n2), .second, .val (.ref b44), .unset, .unset] [(.long n2), (.long s2), (.ref b44)]) := fun t k => pre48 t (by
      refine XS.aload X48.here hx rfl (hb hby at_98) rfl rfl ?_
      show Steps p.tables e below (T48.setTop (mkF m 100 #[.val (.long q1), .second, .val (.int p2), .val (.long q3), .second, .val (.long q4), .second, .val (.int p5), .val (.int m1), .val (.long s2), .second, .val (.long n2), .second, .val (.ref b44), .unset, .unset] [(.ref b44)])) _
      refine XS.lload X48.here hx rfl (hb hby at_100) rfl ?_
      show Steps p.tables e below (T48.setTop (mkF m 102 #[.val (.long q1), .second, .val (.int p2), .val (.long q3), .second, .val (.long q4), .second, .val (.int p5), .val (.int m1), .val (.long s2), .second, .val (.long n2), .second, .val (.ref b44), .unset, .unset] [(.long s2), (.ref b44)])) _
      refine XS.lload X48.here hx rfl (hb hby at_102) rfl ?_
      show Steps p.tables e below (T48.setTop (mkF m 104 #[.val (.long q1), .second, .val (.int p2), .val (.long q3), .second, .val (.long q4), .second, .val (.int p5), .val (.int m1), .val (.long s2), .second, .val (.long n2), .second, .val (.ref b44), .unset, .unset] [(.long n2), (.long s2), (.ref b44)])) _
      exact k)
  obtain ⟨cq50, kq50, q50a, q50b, q50c⟩ := isOf hZ rfl Es
  obtain ⟨_, _, ⟨T50, L50, k50, n50⟩, -, X50, ⟨Lc50, hQ50, l50, y50, z50⟩, st50⟩ := X48.virtualBack hx (y := (⟨"com/example/wakeline/wakeline/stream/Moment", "before", "(JJ)Z"⟩ : MethodName)) (z := (⟨"com/example/wakeline/wakeline/stream/Moment", "before", "(JJ)Z"⟩ : MethodName)) hown (mvT hZ (hw _ (List.mem_of_getElem? (i := 20) rfl))) (mvT hZ (hw _ (List.mem_of_getElem? (i := 21) rfl))) (notFace_of_selects (args := #[]) (mvT hZ (hw _ (List.mem_of_getElem? (i := 23) rfl)))) (mvT hZ (hw _ (List.mem_of_getElem? (i := 23) rfl))) (mvT hZ (hw _ (List.mem_of_getElem? (i := 22) rfl))) (by decide) (backOf (W := 0) (rmb l Z a0 hw [] b44 s2 n2 q1 m1 T48.heap n0 Zb Fs Fn) hZ (hw _ (List.mem_of_getElem? (i := 24) rfl)) (hw _ (List.mem_of_getElem? (i := 4) rfl)) (by decide) (by decide)) q50a q50c (g := (mkF m 104 #[.val (.long q1), .second, .val (.int p2), .val (.long q3), .second, .val (.long q4), .second, .val (.int p5), .val (.int m1), .val (.long s2), .second, .val (.long n2), .second, .val (.ref b44), .unset, .unset] [(.long n2), (.long s2), (.ref b44)])) rfl (by rw [hml]; rfl) (Steps.refl _) (argsL := [(.long s2), (.long n2)]) (rest := []) (lenOf pd_2 rfl) rfl (by show 2 * 0 + _ ≤ _; exact Nat.le_of_eq rfl) (hb hby at_104) (fun _ _ => ⟨rfl, rfl, (by decide : 1 + 0 ≤ _), (by decide : 2 + 0 ≤ _)⟩)
  dsimp only [Pt.U, Pt.locs, Pt.cells, Pt.slots] at X50 l50 y50 z50 st50 hQ50
  subst l50 y50 z50
  obtain ⟨rfl, N50q, eh50⟩ := hQ50
  have N50 := Fr.app N48 N50q
  have pre50 : Goes p e below s₁ (entryFrame m #[(.long q1), (.int p2), (.long q3), (.long q4), (.int p5)] maxLocals) T50 (mkF m 107 #[.val (.long q1), .second, .val (.int p2), .val (.long q3), .second, .val (.long q4), .second, .val (.int p5), .val (.int m1), .val (.long s2), .second, .val (.long n2), .second, .val (.ref b44), .unset, .unset] [(.int (fB q1 m1 s2 n2))]) := fun t k => pre49 t (st50.trans k)
  have pre51 : Goes p e below s₁ (entryFrame m #[(.long q1), (.int p2), (.long q3), (.long q4), (.int p5)] maxLocals) T50 (mkF m 113 #[.val (.long q1), .second, .val (.int p2), .val (.long q3), .second, .val (.long q4), .second, .val (.int p5), .val (.int m1), .val (.long s2), .second, .val (.long n2), .second, .val (.ref b44), .val (.int (fB q1 m1 s2 n2)), .unset] [(.int (lcmpW q1 s2))]) := fun t k => pre50 t (by
      refine XS.istore X50.here hx rfl (hb hby at_107) rfl (l' := #[.val (.long q1), .second, .val (.int p2), .val (.long q3), .second, .val (.long q4), .second, .val (.int p5), .val (.int m1), .val (.long s2), .second, .val (.long n2), .second, .val (.ref b44), .val (.int (fB q1 m1 s2 n2)), .unset]) rfl ?_
      show Steps p.tables e below (T50.setTop (mkF m 109 #[.val (.long q1), .second, .val (.int p2), .val (.long q3), .second, .val (.long q4), .second, .val (.int p5), .val (.int m1), .val (.long s2), .second, .val (.long n2), .second, .val (.ref b44), .val (.int (fB q1 m1 s2 n2)), .unset] [])) _
      refine XS.lloadN X50.here hx rfl (hb hby at_109) rfl ?_
      show Steps p.tables e below (T50.setTop (mkF m 110 #[.val (.long q1), .second, .val (.int p2), .val (.long q3), .second, .val (.long q4), .second, .val (.int p5), .val (.int m1), .val (.long s2), .second, .val (.long n2), .second, .val (.ref b44), .val (.int (fB q1 m1 s2 n2)), .unset] [(.long q1)])) _
      refine XS.lload X50.here hx rfl (hb hby at_110) rfl ?_
      show Steps p.tables e below (T50.setTop (mkF m 112 #[.val (.long q1), .second, .val (.int p2), .val (.long q3), .second, .val (.long q4), .second, .val (.int p5), .val (.int m1), .val (.long s2), .second, .val (.long n2), .second, .val (.ref b44), .val (.int (fB q1 m1 s2 n2)), .unset] [(.long s2), (.long q1)])) _
      refine XS.lcmp X50.here hx rfl (hb hby at_112) rfl ?_
      show Steps p.tables e below (T50.setTop (mkF m 113 #[.val (.long q1), .second, .val (.int p2), .val (.long q3), .second, .val (.long q4), .second, .val (.int p5), .val (.int m1), .val (.long s2), .second, .val (.long n2), .second, .val (.ref b44), .val (.int (fB q1 m1 s2 n2)), .unset] [(.int (lcmpW q1 s2))])) _
      exact k)
  by_cases h1 : (lcmpW q1 s2) < (0 : Int32)
  · skip
    have pre52 : Goes p e below s₁ (entryFrame m #[(.long q1), (.int p2), (.long q3), (.long q4), (.int p5)] maxLocals) T50 (mkF m 160 #[.val (.long q1), .second, .val (.int p2), .val (.long q3), .second, .val (.long q4), .second, .val (.int p5), .val (.int m1), .val (.long s2), .second, .val (.long n2), .second, .val (.ref b44), .val (.int (fB q1 m1 s2 n2)), .val (.int (1 : Int32))] [(.ref b44)]) := fun t k => pre51 t (by
        refine XS.ifNo X50.here hx rfl (hb hby at_113) rfl ((if0 _ _).trans (tlt h1).2.1) ?_
        show Steps p.tables e below (T50.setTop (mkF m 116 #[.val (.long q1), .second, .val (.int p2), .val (.long q3), .second, .val (.long q4), .second, .val (.int p5), .val (.int m1), .val (.long s2), .second, .val (.long n2), .second, .val (.ref b44), .val (.int (fB q1 m1 s2 n2)), .unset] [])) _
        refine XS.iconst X50.here hx rfl (hb hby at_116) ?_
        show Steps p.tables e below (T50.setTop (mkF m 117 #[.val (.long q1), .second, .val (.int p2), .val (.long q3), .second, .val (.long q4), .second, .val (.int p5), .val (.int m1), .val (.long s2), .second, .val (.long n2), .second, .val (.ref b44), .val (.int (fB q1 m1 s2 n2)), .unset] [(.int (1 : Int32))])) _
        refine XS.istore X50.here hx rfl (hb hby at_117) rfl (l' := #[.val (.long q1), .second, .val (.int p2), .val (.long q3), .second, .val (.long q4), .second, .val (.int p5), .val (.int m1), .val (.long s2), .second, .val (.long n2), .second, .val (.ref b44), .val (.int (fB q1 m1 s2 n2)), .val (.int (1 : Int32))]) rfl ?_
        show Steps p.tables e below (T50.setTop (mkF m 119 #[.val (.long q1), .second, .val (.int p2), .val (.long q3), .second, .val (.long q4), .second, .val (.int p5), .val (.int m1), .val (.long s2), .second, .val (.long n2), .second, .val (.ref b44), .val (.int (fB q1 m1 s2 n2)), .val (.int (1 : Int32))] [])) _
        refine XS.goto X50.here hx rfl (pc0 := 119) (pc' := 151) rfl (hb hby at_119) (by decide) (by decide) ?_
        show Steps p.tables e below (T50.setTop (mkF m 151 #[.val (.long q1), .second, .val (.int p2), .val (.long q3), .second, .val (.long q4), .second, .val (.int p5), .val (.int m1), .val (.long s2), .second, .val (.long n2), .second, .val (.ref b44), .val (.int (fB q1 m1 s2 n2)), .val (.int (1 : Int32))] [])) _
        refine XS.iload X50.here hx rfl (hb hby at_151) rfl ?_
        show Steps p.tables e below (T50.setTop (mkF m 153 #[.val (.long q1), .second, .val (.int p2), .val (.long q3), .second, .val (.long q4), .second, .val (.int p5), .val (.int m1), .val (.long s2), .second, .val (.long n2), .second, .val (.ref b44), .val (.int (fB q1 m1 s2 n2)), .val (.int (1 : Int32))] [(.int (fB q1 m1 s2 n2))])) _
        refine XS.iload X50.here hx rfl (hb hby at_153) rfl ?_
        show Steps p.tables e below (T50.setTop (mkF m 155 #[.val (.long q1), .second, .val (.int p2), .val (.long q3), .second, .val (.long q4), .second, .val (.int p5), .val (.int m1), .val (.long s2), .second, .val (.long n2), .second, .val (.ref b44), .val (.int (fB q1 m1 s2 n2)), .val (.int (1 : Int32))] [(.int (1 : Int32)), (.int (fB q1 m1 s2 n2))])) _
        refine XS.icmpNo X50.here hx rfl (hb hby at_155) rfl (teq (show (fB q1 m1 s2 n2) = (1 : Int32) from (if_pos h1))).2 ?_
        show Steps p.tables e below (T50.setTop (mkF m 158 #[.val (.long q1), .second, .val (.int p2), .val (.long q3), .second, .val (.long q4), .second, .val (.int p5), .val (.int m1), .val (.long s2), .second, .val (.long n2), .second, .val (.ref b44), .val (.int (fB q1 m1 s2 n2)), .val (.int (1 : Int32))] [])) _
        refine XS.aload X50.here hx rfl (hb hby at_158) rfl rfl ?_
        show Steps p.tables e below (T50.setTop (mkF m 160 #[.val (.long q1), .second, .val (.int p2), .val (.long q3), .second, .val (.long q4), .second, .val (.int p5), .val (.int m1), .val (.long s2), .second, .val (.long n2), .second, .val (.ref b44), .val (.int (fB q1 m1 s2 n2)), .val (.int (1 : Int32))] [(.ref b44)])) _
        exact k)
    obtain ⟨cq53, kq53, q53a, q53b, q53c⟩ := isOf hZ eh50 Es
    obtain ⟨_, _, ⟨T53, L53, k53, n53⟩, -, X53, ⟨Lc53, hQ53, l53, y53, z53⟩, st53⟩ := X50.virtualBack hx (y := (⟨"com/example/wakeline/wakeline/stream/Moment", "seconds", "()J"⟩ : MethodName)) (z := (⟨"com/example/wakeline/wakeline/stream/Moment", "seconds", "()J"⟩ : MethodName)) hown (mvT hZ (hw _ (List.mem_of_getElem? (i := 25) rfl))) (mvT hZ (hw _ (List.mem_of_getElem? (i := 26) rfl))) (notFace_of_selects (args := #[]) (mvT hZ (hw _ (List.mem_of_getElem? (i := 28) rfl)))) (mvT hZ (hw _ (List.mem_of_getElem? (i := 28) rfl))) (mvT hZ (hw _ (List.mem_of_getElem? (i := 27) rfl))) (by decide) (backOf (W := 0) (rmc l Z a0 hw [] b44 q1 T48.heap n0 Zb Fs) hZ (hw _ (List.mem_of_getElem? (i := 29) rfl)) (hw _ (List.mem_of_getElem? (i := 4) rfl)) (by decide) (by decide)) q53a q53c (g := (mkF m 160 #[.val (.long q1), .second, .val (.int p2), .val (.long q3), .second, .val (.long q4), .second, .val (.int p5), .val (.int m1), .val (.long s2), .second, .val (.long n2), .second, .val (.ref b44), .val (.int (fB q1 m1 s2 n2)), .val (.int (1 : Int32))] [(.ref b44)])) rfl (by rw [hml]; rfl) (Steps.refl _) (argsL := []) (rest := []) (lenOf pd_3 rfl) rfl (by show 2 * 0 + _ ≤ _; exact Nat.le_of_eq rfl) (hb hby at_160) (fun _ _ => ⟨rfl, eh50, (by decide : 1 + 0 ≤ _), (by decide : 2 + 0 ≤ _)⟩)
    dsimp only [Pt.U, Pt.locs, Pt.cells, Pt.slots] at X53 l53 y53 z53 st53 hQ53
    subst l53 y53 z53
    obtain ⟨rfl, N53q, eh53⟩ := hQ53
    have N53 := Fr.app N50 N53q
    have pre53 : Goes p e below s₁ (entryFrame m #[(.long q1), (.int p2), (.long q3), (.long q4), (.int p5)] maxLocals) T53 (mkF m 163 #[.val (.long q1), .second, .val (.int p2), .val (.long q3), .second, .val (.long q4), .second, .val (.int p5), .val (.int m1), .val (.long s2), .second, .val (.long n2), .second, .val (.ref b44), .val (.int (fB q1 m1 s2 n2)), .val (.int (1 : Int32))] [(.long q1)]) := fun t k => pre52 t (st53.trans k)
    have pre54 : Goes p e below s₁ (entryFrame m #[(.long q1), (.int p2), (.long q3), (.long q4), (.int p5)] maxLocals) T53 (mkF m 170 #[.val (.long q1), .second, .val (.int p2), .val (.long q3), .second, .val (.long q4), .second, .val (.int p5), .val (.int m1), .val (.long s2), .second, .val (.long n2), .second, .val (.ref b44), .val (.int (fB q1 m1 s2 n2)), .val (.int (1 : Int32))] [(.ref b44)]) := fun t k => pre53 t (by
        refine XS.lloadN X53.here hx rfl (hb hby at_163) rfl ?_
        show Steps p.tables e below (T53.setTop (mkF m 164 #[.val (.long q1), .second, .val (.int p2), .val (.long q3), .second, .val (.long q4), .second, .val (.int p5), .val (.int m1), .val (.long s2), .second, .val (.long n2), .second, .val (.ref b44), .val (.int (fB q1 m1 s2 n2)), .val (.int (1 : Int32))] [(.long q1), (.long q1)])) _
        refine XS.lcmp X53.here hx rfl (hb hby at_164) rfl ?_
        show Steps p.tables e below (T53.setTop (mkF m 165 #[.val (.long q1), .second, .val (.int p2), .val (.long q3), .second, .val (.long q4), .second, .val (.int p5), .val (.int m1), .val (.long s2), .second, .val (.long n2), .second, .val (.ref b44), .val (.int (fB q1 m1 s2 n2)), .val (.int (1 : Int32))] [(.int (lcmpW q1 q1))])) _
        refine XS.ifNo X53.here hx rfl (hb hby at_165) rfl ((if0 _ _).trans (teq (show (lcmpW q1 q1) = (0 : Int32) from ((lw_eq q1 q1).mpr rfl))).2) ?_
        show Steps p.tables e below (T53.setTop (mkF m 168 #[.val (.long q1), .second, .val (.int p2), .val (.long q3), .second, .val (.long q4), .second, .val (.int p5), .val (.int m1), .val (.long s2), .second, .val (.long n2), .second, .val (.ref b44), .val (.int (fB q1 m1 s2 n2)), .val (.int (1 : Int32))] [])) _
        refine XS.aload X53.here hx rfl (hb hby at_168) rfl rfl ?_
        show Steps p.tables e below (T53.setTop (mkF m 170 #[.val (.long q1), .second, .val (.int p2), .val (.long q3), .second, .val (.long q4), .second, .val (.int p5), .val (.int m1), .val (.long s2), .second, .val (.long n2), .second, .val (.ref b44), .val (.int (fB q1 m1 s2 n2)), .val (.int (1 : Int32))] [(.ref b44)])) _
        exact k)
    obtain ⟨cq55, kq55, q55a, q55b, q55c⟩ := isOf hZ eh53 Es
    obtain ⟨_, _, ⟨T55, L55, k55, n55⟩, -, X55, ⟨Lc55, hQ55, l55, y55, z55⟩, st55⟩ := X53.virtualBack hx (y := (⟨"com/example/wakeline/wakeline/stream/Moment", "nanos", "()I"⟩ : MethodName)) (z := (⟨"com/example/wakeline/wakeline/stream/Moment", "nanos", "()I"⟩ : MethodName)) hown (mvT hZ (hw _ (List.mem_of_getElem? (i := 30) rfl))) (mvT hZ (hw _ (List.mem_of_getElem? (i := 31) rfl))) (notFace_of_selects (args := #[]) (mvT hZ (hw _ (List.mem_of_getElem? (i := 33) rfl)))) (mvT hZ (hw _ (List.mem_of_getElem? (i := 33) rfl))) (mvT hZ (hw _ (List.mem_of_getElem? (i := 32) rfl))) (by decide) (backOf (W := 0) (rmn l Z a0 hw [] b44 m1 T48.heap n0 Zb Fn) hZ (hw _ (List.mem_of_getElem? (i := 34) rfl)) (hw _ (List.mem_of_getElem? (i := 4) rfl)) (by decide) (by decide)) q55a q55c (g := (mkF m 170 #[.val (.long q1), .second, .val (.int p2), .val (.long q3), .second, .val (.long q4), .second, .val (.int p5), .val (.int m1), .val (.long s2), .second, .val (.long n2), .second, .val (.ref b44), .val (.int (fB q1 m1 s2 n2)), .val (.int (1 : Int32))] [(.ref b44)])) rfl (by rw [hml]; rfl) (Steps.refl _) (argsL := []) (rest := []) (lenOf pd_4 rfl) rfl (by show 2 * 0 + _ ≤ _; exact Nat.le_of_eq rfl) (hb hby at_170) (fun _ _ => ⟨rfl, eh53, (by decide : 1 + 0 ≤ _), (by decide : 2 + 0 ≤ _)⟩)
    dsimp only [Pt.U, Pt.locs, Pt.cells, Pt.slots] at X55 l55 y55 z55 st55 hQ55
    subst l55 y55 z55
    obtain ⟨rfl, N55q, eh55⟩ := hQ55
    have N55 := Fr.app N53 N55q
    have pre55 : Goes p e below s₁ (entryFrame m #[(.long q1), (.int p2), (.long q3), (.long q4), (.int p5)] maxLocals) T55 (mkF m 173 #[.val (.long q1), .second, .val (.int p2), .val (.long q3), .second, .val (.long q4), .second, .val (.int p5), .val (.int m1), .val (.long s2), .second, .val (.long n2), .second, .val (.ref b44), .val (.int (fB q1 m1 s2 n2)), .val (.int (1 : Int32))] [(.int m1)]) := fun t k => pre54 t (st55.trans k)
    have pre56 : Goes p e below s₁ (entryFrame m #[(.long q1), (.int p2), (.long q3), (.long q4), (.int p5)] maxLocals) T55 (mkF m 183 #[.val (.long q1), .second, .val (.int p2), .val (.long q3), .second, .val (.long q4), .second, .val (.int p5), .val (.int m1), .val (.long s2), .second, .val (.long n2), .second, .val (.ref b44), .val (.int (fB q1 m1 s2 n2)), .val (.int (1 : Int32))] [(.int (1 : Int32))]) := fun t k => pre55 t (by
        refine XS.iload X55.here hx rfl (hb hby at_173) rfl ?_
        show Steps p.tables e below (T55.setTop (mkF m 175 #[.val (.long q1), .second, .val (.int p2), .val (.long q3), .second, .val (.long q4), .second, .val (.int p5), .val (.int m1), .val (.long s2), .second, .val (.long n2), .second, .val (.ref b44), .val (.int (fB q1 m1 s2 n2)), .val (.int (1 : Int32))] [(.int m1), (.int m1)])) _
        refine XS.icmpNo X55.here hx rfl (hb hby at_175) rfl (teq rfl).2 ?_
        show Steps p.tables e below (T55.setTop (mkF m 178 #[.val (.long q1), .second, .val (.int p2), .val (.long q3), .second, .val (.long q4), .second, .val (.int p5), .val (.int m1), .val (.long s2), .second, .val (.long n2), .second, .val (.ref b44), .val (.int (fB q1 m1 s2 n2)), .val (.int (1 : Int32))] [])) _
        refine XS.iconst X55.here hx rfl (hb hby at_178) ?_
        show Steps p.tables e below (T55.setTop (mkF m 179 #[.val (.long q1), .second, .val (.int p2), .val (.long q3), .second, .val (.long q4), .second, .val (.int p5), .val (.int m1), .val (.long s2), .second, .val (.long n2), .second, .val (.ref b44), .val (.int (fB q1 m1 s2 n2)), .val (.int (1 : Int32))] [(.int (1 : Int32))])) _
        refine XS.goto X55.here hx rfl (pc0 := 179) (pc' := 183) rfl (hb hby at_179) (by decide) (by decide) ?_
        show Steps p.tables e below (T55.setTop (mkF m 183 #[.val (.long q1), .second, .val (.int p2), .val (.long q3), .second, .val (.long q4), .second, .val (.int p5), .val (.int m1), .val (.long s2), .second, .val (.long n2), .second, .val (.ref b44), .val (.int (fB q1 m1 s2 n2)), .val (.int (1 : Int32))] [(.int (1 : Int32))])) _
        exact k)
    obtain ⟨fs, hr, hrun, hended, hW, hsame⟩ := X55.leave (v := some (.int (1 : Int32))) (fun h => by rw [Bd.returns] at h; cases h)
    refine ⟨_, _, pre56 _ (retN X55 hx (t := .boolean) Bd.returns (by simp) (hb hby at_183) hr), hrun, hended, _, _, rfl, ?_, ⟨_, rfl⟩, hW, hsame.mono (by decide) (by decide)⟩
    show Q0 Z q1 p2 q3 q4 p5 h0 n0 _ T55.heap _
    exact ⟨rfl, N55⟩
  · skip
    have pre57 : Goes p e below s₁ (entryFrame m #[(.long q1), (.int p2), (.long q3), (.long q4), (.int p5)] maxLocals) T50 (mkF m 126 #[.val (.long q1), .second, .val (.int p2), .val (.long q3), .second, .val (.long q4), .second, .val (.int p5), .val (.int m1), .val (.long s2), .second, .val (.long n2), .second, .val (.ref b44), .val (.int (fB q1 m1 s2 n2)), .unset] [(.int (lcmpW q1 s2))]) := fun t k => pre51 t (by
        refine XS.ifYes X50.here hx rfl (pc0 := 113) (pc' := 122) rfl (hb hby at_113) rfl ((if0 _ _).trans (flt h1).2.1) (by decide) (by decide) ?_
        show Steps p.tables e below (T50.setTop (mkF m 122 #[.val (.long q1), .second, .val (.int p2), .val (.long q3), .second, .val (.long q4), .second, .val (.int p5), .val (.int m1), .val (.long s2), .second, .val (.long n2), .second, .val (.ref b44), .val (.int (fB q1 m1 s2 n2)), .unset] [])) _
        refine XS.lloadN X50.here hx rfl (hb hby at_122) rfl ?_
        show Steps p.tables e below (T50.setTop (mkF m 123 #[.val (.long q1), .second, .val (.int p2), .val (.long q3), .second, .val (.long q4), .second, .val (.int p5), .val (.int m1), .val (.long s2), .second, .val (.long n2), .second, .val (.ref b44), .val (.int (fB q1 m1 s2 n2)), .unset] [(.long q1)])) _
        refine XS.lload X50.here hx rfl (hb hby at_123) rfl ?_
        show Steps p.tables e below (T50.setTop (mkF m 125 #[.val (.long q1), .second, .val (.int p2), .val (.long q3), .second, .val (.long q4), .second, .val (.int p5), .val (.int m1), .val (.long s2), .second, .val (.long n2), .second, .val (.ref b44), .val (.int (fB q1 m1 s2 n2)), .unset] [(.long s2), (.long q1)])) _
        refine XS.lcmp X50.here hx rfl (hb hby at_125) rfl ?_
        show Steps p.tables e below (T50.setTop (mkF m 126 #[.val (.long q1), .second, .val (.int p2), .val (.long q3), .second, .val (.long q4), .second, .val (.int p5), .val (.int m1), .val (.long s2), .second, .val (.long n2), .second, .val (.ref b44), .val (.int (fB q1 m1 s2 n2)), .unset] [(.int (lcmpW q1 s2))])) _
        exact k)
    by_cases h2 : (0 : Int32) < (lcmpW q1 s2)
    · skip
      have pre58 : Goes p e below s₁ (entryFrame m #[(.long q1), (.int p2), (.long q3), (.long q4), (.int p5)] maxLocals) T50 (mkF m 160 #[.val (.long q1), .second, .val (.int p2), .val (.long q3), .second, .val (.long q4), .second, .val (.int p5), .val (.int m1), .val (.long s2), .second, .val (.long n2), .second, .val (.ref b44), .val (.int (fB q1 m1 s2 n2)), .val (.int (0 : Int32))] [(.ref b44)]) := fun t k => pre57 t (by
          refine XS.ifNo X50.here hx rfl (hb hby at_126) rfl ((if0 _ _).trans (tlt h2).2.2.2) ?_
          show Steps p.tables e below (T50.setTop (mkF m 129 #[.val (.long q1), .second, .val (.int p2), .val (.long q3), .second, .val (.long q4), .second, .val (.int p5), .val (.int m1), .val (.long s2), .second, .val (.long n2), .second, .val (.ref b44), .val (.int (fB q1 m1 s2 n2)), .unset] [])) _
          refine XS.iconst X50.here hx rfl (hb hby at_129) ?_
          show Steps p.tables e below (T50.setTop (mkF m 130 #[.val (.long q1), .second, .val (.int p2), .val (.long q3), .second, .val (.long q4), .second, .val (.int p5), .val (.int m1), .val (.long s2), .second, .val (.long n2), .second, .val (.ref b44), .val (.int (fB q1 m1 s2 n2)), .unset] [(.int (0 : Int32))])) _
          refine XS.istore X50.here hx rfl (hb hby at_130) rfl (l' := #[.val (.long q1), .second, .val (.int p2), .val (.long q3), .second, .val (.long q4), .second, .val (.int p5), .val (.int m1), .val (.long s2), .second, .val (.long n2), .second, .val (.ref b44), .val (.int (fB q1 m1 s2 n2)), .val (.int (0 : Int32))]) rfl ?_
          show Steps p.tables e below (T50.setTop (mkF m 132 #[.val (.long q1), .second, .val (.int p2), .val (.long q3), .second, .val (.long q4), .second, .val (.int p5), .val (.int m1), .val (.long s2), .second, .val (.long n2), .second, .val (.ref b44), .val (.int (fB q1 m1 s2 n2)), .val (.int (0 : Int32))] [])) _
          refine XS.goto X50.here hx rfl (pc0 := 132) (pc' := 151) rfl (hb hby at_132) (by decide) (by decide) ?_
          show Steps p.tables e below (T50.setTop (mkF m 151 #[.val (.long q1), .second, .val (.int p2), .val (.long q3), .second, .val (.long q4), .second, .val (.int p5), .val (.int m1), .val (.long s2), .second, .val (.long n2), .second, .val (.ref b44), .val (.int (fB q1 m1 s2 n2)), .val (.int (0 : Int32))] [])) _
          refine XS.iload X50.here hx rfl (hb hby at_151) rfl ?_
          show Steps p.tables e below (T50.setTop (mkF m 153 #[.val (.long q1), .second, .val (.int p2), .val (.long q3), .second, .val (.long q4), .second, .val (.int p5), .val (.int m1), .val (.long s2), .second, .val (.long n2), .second, .val (.ref b44), .val (.int (fB q1 m1 s2 n2)), .val (.int (0 : Int32))] [(.int (fB q1 m1 s2 n2))])) _
          refine XS.iload X50.here hx rfl (hb hby at_153) rfl ?_
          show Steps p.tables e below (T50.setTop (mkF m 155 #[.val (.long q1), .second, .val (.int p2), .val (.long q3), .second, .val (.long q4), .second, .val (.int p5), .val (.int m1), .val (.long s2), .second, .val (.long n2), .second, .val (.ref b44), .val (.int (fB q1 m1 s2 n2)), .val (.int (0 : Int32))] [(.int (0 : Int32)), (.int (fB q1 m1 s2 n2))])) _
          refine XS.icmpNo X50.here hx rfl (hb hby at_155) rfl (teq (show (fB q1 m1 s2 n2) = (0 : Int32) from ((if_neg h1).trans (if_neg (own_ne q1 s2 h2))))).2 ?_
          show Steps p.tables e below (T50.setTop (mkF m 158 #[.val (.long q1), .second, .val (.int p2), .val (.long q3), .second, .val (.long q4), .second, .val (.int p5), .val (.int m1), .val (.long s2), .second, .val (.long n2), .second, .val (.ref b44), .val (.int (fB q1 m1 s2 n2)), .val (.int (0 : Int32))] [])) _
          refine XS.aload X50.here hx rfl (hb hby at_158) rfl rfl ?_
          show Steps p.tables e below (T50.setTop (mkF m 160 #[.val (.long q1), .second, .val (.int p2), .val (.long q3), .second, .val (.long q4), .second, .val (.int p5), .val (.int m1), .val (.long s2), .second, .val (.long n2), .second, .val (.ref b44), .val (.int (fB q1 m1 s2 n2)), .val (.int (0 : Int32))] [(.ref b44)])) _
          exact k)
      obtain ⟨cq59, kq59, q59a, q59b, q59c⟩ := isOf hZ eh50 Es
      obtain ⟨_, _, ⟨T59, L59, k59, n59⟩, -, X59, ⟨Lc59, hQ59, l59, y59, z59⟩, st59⟩ := X50.virtualBack hx (y := (⟨"com/example/wakeline/wakeline/stream/Moment", "seconds", "()J"⟩ : MethodName)) (z := (⟨"com/example/wakeline/wakeline/stream/Moment", "seconds", "()J"⟩ : MethodName)) hown (mvT hZ (hw _ (List.mem_of_getElem? (i := 25) rfl))) (mvT hZ (hw _ (List.mem_of_getElem? (i := 26) rfl))) (notFace_of_selects (args := #[]) (mvT hZ (hw _ (List.mem_of_getElem? (i := 28) rfl)))) (mvT hZ (hw _ (List.mem_of_getElem? (i := 28) rfl))) (mvT hZ (hw _ (List.mem_of_getElem? (i := 27) rfl))) (by decide) (backOf (W := 0) (rmc l Z a0 hw [] b44 q1 T48.heap n0 Zb Fs) hZ (hw _ (List.mem_of_getElem? (i := 29) rfl)) (hw _ (List.mem_of_getElem? (i := 4) rfl)) (by decide) (by decide)) q59a q59c (g := (mkF m 160 #[.val (.long q1), .second, .val (.int p2), .val (.long q3), .second, .val (.long q4), .second, .val (.int p5), .val (.int m1), .val (.long s2), .second, .val (.long n2), .second, .val (.ref b44), .val (.int (fB q1 m1 s2 n2)), .val (.int (0 : Int32))] [(.ref b44)])) rfl (by rw [hml]; rfl) (Steps.refl _) (argsL := []) (rest := []) (lenOf pd_3 rfl) rfl (by show 2 * 0 + _ ≤ _; exact Nat.le_of_eq rfl) (hb hby at_160) (fun _ _ => ⟨rfl, eh50, (by decide : 1 + 0 ≤ _), (by decide : 2 + 0 ≤ _)⟩)
      dsimp only [Pt.U, Pt.locs, Pt.cells, Pt.slots] at X59 l59 y59 z59 st59 hQ59
      subst l59 y59 z59
      obtain ⟨rfl, N59q, eh59⟩ := hQ59
      have N59 := Fr.app N50 N59q
      have pre59 : Goes p e below s₁ (entryFrame m #[(.long q1), (.int p2), (.long q3), (.long q4), (.int p5)] maxLocals) T59 (mkF m 163 #[.val (.long q1), .second, .val (.int p2), .val (.long q3), .second, .val (.long q4), .second, .val (.int p5), .val (.int m1), .val (.long s2), .second, .val (.long n2), .second, .val (.ref b44), .val (.int (fB q1 m1 s2 n2)), .val (.int (0 : Int32))] [(.long q1)]) := fun t k => pre58 t (st59.trans k)
      have pre60 : Goes p e below s₁ (entryFrame m #[(.long q1), (.int p2), (.long q3), (.long q4), (.int p5)] maxLocals) T59 (mkF m 170 #[.val (.long q1), .second, .val (.int p2), .val (.long q3), .second, .val (.long q4), .second, .val (.int p5), .val (.int m1), .val (.long s2), .second, .val (.long n2), .second, .val (.ref b44), .val (.int (fB q1 m1 s2 n2)), .val (.int (0 : Int32))] [(.ref b44)]) := fun t k => pre59 t (by
          refine XS.lloadN X59.here hx rfl (hb hby at_163) rfl ?_
          show Steps p.tables e below (T59.setTop (mkF m 164 #[.val (.long q1), .second, .val (.int p2), .val (.long q3), .second, .val (.long q4), .second, .val (.int p5), .val (.int m1), .val (.long s2), .second, .val (.long n2), .second, .val (.ref b44), .val (.int (fB q1 m1 s2 n2)), .val (.int (0 : Int32))] [(.long q1), (.long q1)])) _
          refine XS.lcmp X59.here hx rfl (hb hby at_164) rfl ?_
          show Steps p.tables e below (T59.setTop (mkF m 165 #[.val (.long q1), .second, .val (.int p2), .val (.long q3), .second, .val (.long q4), .second, .val (.int p5), .val (.int m1), .val (.long s2), .second, .val (.long n2), .second, .val (.ref b44), .val (.int (fB q1 m1 s2 n2)), .val (.int (0 : Int32))] [(.int (lcmpW q1 q1))])) _
          refine XS.ifNo X59.here hx rfl (hb hby at_165) rfl ((if0 _ _).trans (teq (show (lcmpW q1 q1) = (0 : Int32) from ((lw_eq q1 q1).mpr rfl))).2) ?_
          show Steps p.tables e below (T59.setTop (mkF m 168 #[.val (.long q1), .second, .val (.int p2), .val (.long q3), .second, .val (.long q4), .second, .val (.int p5), .val (.int m1), .val (.long s2), .second, .val (.long n2), .second, .val (.ref b44), .val (.int (fB q1 m1 s2 n2)), .val (.int (0 : Int32))] [])) _
          refine XS.aload X59.here hx rfl (hb hby at_168) rfl rfl ?_
          show Steps p.tables e below (T59.setTop (mkF m 170 #[.val (.long q1), .second, .val (.int p2), .val (.long q3), .second, .val (.long q4), .second, .val (.int p5), .val (.int m1), .val (.long s2), .second, .val (.long n2), .second, .val (.ref b44), .val (.int (fB q1 m1 s2 n2)), .val (.int (0 : Int32))] [(.ref b44)])) _
          exact k)
      obtain ⟨cq61, kq61, q61a, q61b, q61c⟩ := isOf hZ eh59 Es
      obtain ⟨_, _, ⟨T61, L61, k61, n61⟩, -, X61, ⟨Lc61, hQ61, l61, y61, z61⟩, st61⟩ := X59.virtualBack hx (y := (⟨"com/example/wakeline/wakeline/stream/Moment", "nanos", "()I"⟩ : MethodName)) (z := (⟨"com/example/wakeline/wakeline/stream/Moment", "nanos", "()I"⟩ : MethodName)) hown (mvT hZ (hw _ (List.mem_of_getElem? (i := 30) rfl))) (mvT hZ (hw _ (List.mem_of_getElem? (i := 31) rfl))) (notFace_of_selects (args := #[]) (mvT hZ (hw _ (List.mem_of_getElem? (i := 33) rfl)))) (mvT hZ (hw _ (List.mem_of_getElem? (i := 33) rfl))) (mvT hZ (hw _ (List.mem_of_getElem? (i := 32) rfl))) (by decide) (backOf (W := 0) (rmn l Z a0 hw [] b44 m1 T48.heap n0 Zb Fn) hZ (hw _ (List.mem_of_getElem? (i := 34) rfl)) (hw _ (List.mem_of_getElem? (i := 4) rfl)) (by decide) (by decide)) q61a q61c (g := (mkF m 170 #[.val (.long q1), .second, .val (.int p2), .val (.long q3), .second, .val (.long q4), .second, .val (.int p5), .val (.int m1), .val (.long s2), .second, .val (.long n2), .second, .val (.ref b44), .val (.int (fB q1 m1 s2 n2)), .val (.int (0 : Int32))] [(.ref b44)])) rfl (by rw [hml]; rfl) (Steps.refl _) (argsL := []) (rest := []) (lenOf pd_4 rfl) rfl (by show 2 * 0 + _ ≤ _; exact Nat.le_of_eq rfl) (hb hby at_170) (fun _ _ => ⟨rfl, eh59, (by decide : 1 + 0 ≤ _), (by decide : 2 + 0 ≤ _)⟩)
      dsimp only [Pt.U, Pt.locs, Pt.cells, Pt.slots] at X61 l61 y61 z61 st61 hQ61
      subst l61 y61 z61
      obtain ⟨rfl, N61q, eh61⟩ := hQ61
      have N61 := Fr.app N59 N61q
      have pre61 : Goes p e below s₁ (entryFrame m #[(.long q1), (.int p2), (.long q3), (.long q4), (.int p5)] maxLocals) T61 (mkF m 173 #[.val (.long q1), .second, .val (.int p2), .val (.long q3), .second, .val (.long q4), .second, .val (.int p5), .val (.int m1), .val (.long s2), .second, .val (.long n2), .second, .val (.ref b44), .val (.int (fB q1 m1 s2 n2)), .val (.int (0 : Int32))] [(.int m1)]) := fun t k => pre60 t (st61.trans k)
      have pre62 : Goes p e below s₁ (entryFrame m #[(.long q1), (.int p2), (.long q3), (.long q4), (.int p5)] maxLocals) T61 (mkF m 183 #[.val (.long q1), .second, .val (.int p2), .val (.long q3), .second, .val (.long q4), .second, .val (.int p5), .val (.int m1), .val (.long s2), .second, .val (.long n2), .second, .val (.ref b44), .val (.int (fB q1 m1 s2 n2)), .val (.int (0 : Int32))] [(.int (1 : Int32))]) := fun t k => pre61 t (by
          refine XS.iload X61.here hx rfl (hb hby at_173) rfl ?_
          show Steps p.tables e below (T61.setTop (mkF m 175 #[.val (.long q1), .second, .val (.int p2), .val (.long q3), .second, .val (.long q4), .second, .val (.int p5), .val (.int m1), .val (.long s2), .second, .val (.long n2), .second, .val (.ref b44), .val (.int (fB q1 m1 s2 n2)), .val (.int (0 : Int32))] [(.int m1), (.int m1)])) _
          refine XS.icmpNo X61.here hx rfl (hb hby at_175) rfl (teq rfl).2 ?_
          show Steps p.tables e below (T61.setTop (mkF m 178 #[.val (.long q1), .second, .val (.int p2), .val (.long q3), .second, .val (.long q4), .second, .val (.int p5), .val (.int m1), .val (.long s2), .second, .val (.long n2), .second, .val (.ref b44), .val (.int (fB q1 m1 s2 n2)), .val (.int (0 : Int32))] [])) _
          refine XS.iconst X61.here hx rfl (hb hby at_178) ?_
          show Steps p.tables e below (T61.setTop (mkF m 179 #[.val (.long q1), .second, .val (.int p2), .val (.long q3), .second, .val (.long q4), .second, .val (.int p5), .val (.int m1), .val (.long s2), .second, .val (.long n2), .second, .val (.ref b44), .val (.int (fB q1 m1 s2 n2)), .val (.int (0 : Int32))] [(.int (1 : Int32))])) _
          refine XS.goto X61.here hx rfl (pc0 := 179) (pc' := 183) rfl (hb hby at_179) (by decide) (by decide) ?_
          show Steps p.tables e below (T61.setTop (mkF m 183 #[.val (.long q1), .second, .val (.int p2), .val (.long q3), .second, .val (.long q4), .second, .val (.int p5), .val (.int m1), .val (.long s2), .second, .val (.long n2), .second, .val (.ref b44), .val (.int (fB q1 m1 s2 n2)), .val (.int (0 : Int32))] [(.int (1 : Int32))])) _
          exact k)
      obtain ⟨fs, hr, hrun, hended, hW, hsame⟩ := X61.leave (v := some (.int (1 : Int32))) (fun h => by rw [Bd.returns] at h; cases h)
      refine ⟨_, _, pre62 _ (retN X61 hx (t := .boolean) Bd.returns (by simp) (hb hby at_183) hr), hrun, hended, _, _, rfl, ?_, ⟨_, rfl⟩, hW, hsame.mono (by decide) (by decide)⟩
      show Q0 Z q1 p2 q3 q4 p5 h0 n0 _ T61.heap _
      exact ⟨rfl, N61⟩
    · skip
      have pre63 : Goes p e below s₁ (entryFrame m #[(.long q1), (.int p2), (.long q3), (.long q4), (.int p5)] maxLocals) T50 (mkF m 141 #[.val (.long q1), .second, .val (.int p2), .val (.long q3), .second, .val (.long q4), .second, .val (.int p5), .val (.int m1), .val (.long s2), .second, .val (.long n2), .second, .val (.ref b44), .val (.int (fB q1 m1 s2 n2)), .unset] [(.int (lcmpW (m1.toInt64) n2))]) := fun t k => pre57 t (by
          refine XS.ifYes X50.here hx rfl (pc0 := 126) (pc' := 135) rfl (hb hby at_126) rfl ((if0 _ _).trans (flt h2).2.2.2) (by decide) (by decide) ?_
          show Steps p.tables e below (T50.setTop (mkF m 135 #[.val (.long q1), .second, .val (.int p2), .val (.long q3), .second, .val (.long q4), .second, .val (.int p5), .val (.int m1), .val (.long s2), .second, .val (.long n2), .second, .val (.ref b44), .val (.int (fB q1 m1 s2 n2)), .unset] [])) _
          refine XS.iload X50.here hx rfl (hb hby at_135) rfl ?_
          show Steps p.tables e below (T50.setTop (mkF m 137 #[.val (.long q1), .second, .val (.int p2), .val (.long q3), .second, .val (.long q4), .second, .val (.int p5), .val (.int m1), .val (.long s2), .second, .val (.long n2), .second, .val (.ref b44), .val (.int (fB q1 m1 s2 n2)), .unset] [(.int m1)])) _
          refine XS.i2l X50.here hx rfl (hb hby at_137) rfl ?_
          show Steps p.tables e below (T50.setTop (mkF m 138 #[.val (.long q1), .second, .val (.int p2), .val (.long q3), .second, .val (.long q4), .second, .val (.int p5), .val (.int m1), .val (.long s2), .second, .val (.long n2), .second, .val (.ref b44), .val (.int (fB q1 m1 s2 n2)), .unset] [(.long (m1.toInt64))])) _
          refine XS.lload X50.here hx rfl (hb hby at_138) rfl ?_
          show Steps p.tables e below (T50.setTop (mkF m 140 #[.val (.long q1), .second, .val (.int p2), .val (.long q3), .second, .val (.long q4), .second, .val (.int p5), .val (.int m1), .val (.long s2), .second, .val (.long n2), .second, .val (.ref b44), .val (.int (fB q1 m1 s2 n2)), .unset] [(.long n2), (.long (m1.toInt64))])) _
          refine XS.lcmp X50.here hx rfl (hb hby at_140) rfl ?_
          show Steps p.tables e below (T50.setTop (mkF m 141 #[.val (.long q1), .second, .val (.int p2), .val (.long q3), .second, .val (.long q4), .second, .val (.int p5), .val (.int m1), .val (.long s2), .second, .val (.long n2), .second, .val (.ref b44), .val (.int (fB q1 m1 s2 n2)), .unset] [(.int (lcmpW (m1.toInt64) n2))])) _
          exact k)
      by_cases h3 : (lcmpW (m1.toInt64) n2) < (0 : Int32)
      · skip
        have pre64 : Goes p e below s₁ (entryFrame m #[(.long q1), (.int p2), (.long q3), (.long q4), (.int p5)] maxLocals) T50 (mkF m 160 #[.val (.long q1), .second, .val (.int p2), .val (.long q3), .second, .val (.long q4), .second, .val (.int p5), .val (.int m1), .val (.long s2), .second, .val (.long n2), .second, .val (.ref b44), .val (.int (fB q1 m1 s2 n2)), .val (.int (1 : Int32))] [(.ref b44)]) := fun t k => pre63 t (by
            refine XS.ifNo X50.here hx rfl (hb hby at_141) rfl ((if0 _ _).trans (tlt h3).2.1) ?_
            show Steps p.tables e below (T50.setTop (mkF m 144 #[.val (.long q1), .second, .val (.int p2), .val (.long q3), .second, .val (.long q4), .second, .val (.int p5), .val (.int m1), .val (.long s2), .second, .val (.long n2), .second, .val (.ref b44), .val (.int (fB q1 m1 s2 n2)), .unset] [])) _
            refine XS.iconst X50.here hx rfl (hb hby at_144) ?_
            show Steps p.tables e below (T50.setTop (mkF m 145 #[.val (.long q1), .second, .val (.int p2), .val (.long q3), .second, .val (.long q4), .second, .val (.int p5), .val (.int m1), .val (.long s2), .second, .val (.long n2), .second, .val (.ref b44), .val (.int (fB q1 m1 s2 n2)), .unset] [(.int (1 : Int32))])) _
            refine XS.goto X50.here hx rfl (pc0 := 145) (pc' := 149) rfl (hb hby at_145) (by decide) (by decide) ?_
            show Steps p.tables e below (T50.setTop (mkF m 149 #[.val (.long q1), .second, .val (.int p2), .val (.long q3), .second, .val (.long q4), .second, .val (.int p5), .val (.int m1), .val (.long s2), .second, .val (.long n2), .second, .val (.ref b44), .val (.int (fB q1 m1 s2 n2)), .unset] [(.int (1 : Int32))])) _
            refine XS.istore X50.here hx rfl (hb hby at_149) rfl (l' := #[.val (.long q1), .second, .val (.int p2), .val (.long q3), .second, .val (.long q4), .second, .val (.int p5), .val (.int m1), .val (.long s2), .second, .val (.long n2), .second, .val (.ref b44), .val (.int (fB q1 m1 s2 n2)), .val (.int (1 : Int32))]) rfl ?_
            show Steps p.tables e below (T50.setTop (mkF m 151 #[.val (.long q1), .second, .val (.int p2), .val (.long q3), .second, .val (.long q4), .second, .val (.int p5), .val (.int m1), .val (.long s2), .second, .val (.long n2), .second, .val (.ref b44), .val (.int (fB q1 m1 s2 n2)), .val (.int (1 : Int32))] [])) _
            refine XS.iload X50.here hx rfl (hb hby at_151) rfl ?_
            show Steps p.tables e below (T50.setTop (mkF m 153 #[.val (.long q1), .second, .val (.int p2), .val (.long q3), .second, .val (.long q4), .second, .val (.int p5), .val (.int m1), .val (.long s2), .second, .val (.long n2), .second, .val (.ref b44), .val (.int (fB q1 m1 s2 n2)), .val (.int (1 : Int32))] [(.int (fB q1 m1 s2 n2))])) _
            refine XS.iload X50.here hx rfl (hb hby at_153) rfl ?_
            show Steps p.tables e below (T50.setTop (mkF m 155 #[.val (.long q1), .second, .val (.int p2), .val (.long q3), .second, .val (.long q4), .second, .val (.int p5), .val (.int m1), .val (.long s2), .second, .val (.long n2), .second, .val (.ref b44), .val (.int (fB q1 m1 s2 n2)), .val (.int (1 : Int32))] [(.int (1 : Int32)), (.int (fB q1 m1 s2 n2))])) _
            refine XS.icmpNo X50.here hx rfl (hb hby at_155) rfl (teq (show (fB q1 m1 s2 n2) = (1 : Int32) from ((if_neg h1).trans ((if_pos (own_eq q1 s2 h1 h2)).trans (if_pos h3))))).2 ?_
            show Steps p.tables e below (T50.setTop (mkF m 158 #[.val (.long q1), .second, .val (.int p2), .val (.long q3), .second, .val (.long q4), .second, .val (.int p5), .val (.int m1), .val (.long s2), .second, .val (.long n2), .second, .val (.ref b44), .val (.int (fB q1 m1 s2 n2)), .val (.int (1 : Int32))] [])) _
            refine XS.aload X50.here hx rfl (hb hby at_158) rfl rfl ?_
            show Steps p.tables e below (T50.setTop (mkF m 160 #[.val (.long q1), .second, .val (.int p2), .val (.long q3), .second, .val (.long q4), .second, .val (.int p5), .val (.int m1), .val (.long s2), .second, .val (.long n2), .second, .val (.ref b44), .val (.int (fB q1 m1 s2 n2)), .val (.int (1 : Int32))] [(.ref b44)])) _
            exact k)
        obtain ⟨cq65, kq65, q65a, q65b, q65c⟩ := isOf hZ eh50 Es
        obtain ⟨_, _, ⟨T65, L65, k65, n65⟩, -, X65, ⟨Lc65, hQ65, l65, y65, z65⟩, st65⟩ := X50.virtualBack hx (y := (⟨"com/example/wakeline/wakeline/stream/Moment", "seconds", "()J"⟩ : MethodName)) (z := (⟨"com/example/wakeline/wakeline/stream/Moment", "seconds", "()J"⟩ : MethodName)) hown (mvT hZ (hw _ (List.mem_of_getElem? (i := 25) rfl))) (mvT hZ (hw _ (List.mem_of_getElem? (i := 26) rfl))) (notFace_of_selects (args := #[]) (mvT hZ (hw _ (List.mem_of_getElem? (i := 28) rfl)))) (mvT hZ (hw _ (List.mem_of_getElem? (i := 28) rfl))) (mvT hZ (hw _ (List.mem_of_getElem? (i := 27) rfl))) (by decide) (backOf (W := 0) (rmc l Z a0 hw [] b44 q1 T48.heap n0 Zb Fs) hZ (hw _ (List.mem_of_getElem? (i := 29) rfl)) (hw _ (List.mem_of_getElem? (i := 4) rfl)) (by decide) (by decide)) q65a q65c (g := (mkF m 160 #[.val (.long q1), .second, .val (.int p2), .val (.long q3), .second, .val (.long q4), .second, .val (.int p5), .val (.int m1), .val (.long s2), .second, .val (.long n2), .second, .val (.ref b44), .val (.int (fB q1 m1 s2 n2)), .val (.int (1 : Int32))] [(.ref b44)])) rfl (by rw [hml]; rfl) (Steps.refl _) (argsL := []) (rest := []) (lenOf pd_3 rfl) rfl (by show 2 * 0 + _ ≤ _; exact Nat.le_of_eq rfl) (hb hby at_160) (fun _ _ => ⟨rfl, eh50, (by decide : 1 + 0 ≤ _), (by decide : 2 + 0 ≤ _)⟩)
        dsimp only [Pt.U, Pt.locs, Pt.cells, Pt.slots] at X65 l65 y65 z65 st65 hQ65
        subst l65 y65 z65
        obtain ⟨rfl, N65q, eh65⟩ := hQ65
        have N65 := Fr.app N50 N65q
        have pre65 : Goes p e below s₁ (entryFrame m #[(.long q1), (.int p2), (.long q3), (.long q4), (.int p5)] maxLocals) T65 (mkF m 163 #[.val (.long q1), .second, .val (.int p2), .val (.long q3), .second, .val (.long q4), .second, .val (.int p5), .val (.int m1), .val (.long s2), .second, .val (.long n2), .second, .val (.ref b44), .val (.int (fB q1 m1 s2 n2)), .val (.int (1 : Int32))] [(.long q1)]) := fun t k => pre64 t (st65.trans k)
        have pre66 : Goes p e below s₁ (entryFrame m #[(.long q1), (.int p2), (.long q3), (.long q4), (.int p5)] maxLocals) T65 (mkF m 170 #[.val (.long q1), .second, .val (.int p2), .val (.long q3), .second, .val (.long q4), .second, .val (.int p5), .val (.int m1), .val (.long s2), .second, .val (.long n2), .second, .val (.ref b44), .val (.int (fB q1 m1 s2 n2)), .val (.int (1 : Int32))] [(.ref b44)]) := fun t k => pre65 t (by
            refine XS.lloadN X65.here hx rfl (hb hby at_163) rfl ?_
            show Steps p.tables e below (T65.setTop (mkF m 164 #[.val (.long q1), .second, .val (.int p2), .val (.long q3), .second, .val (.long q4), .second, .val (.int p5), .val (.int m1), .val (.long s2), .second, .val (.long n2), .second, .val (.ref b44), .val (.int (fB q1 m1 s2 n2)), .val (.int (1 : Int32))] [(.long q1), (.long q1)])) _
            refine XS.lcmp X65.here hx rfl (hb hby at_164) rfl ?_
            show Steps p.tables e below (T65.setTop (mkF m 165 #[.val (.long q1), .second, .val (.int p2), .val (.long q3), .second, .val (.long q4), .second, .val (.int p5), .val (.int m1), .val (.long s2), .second, .val (.long n2), .second, .val (.ref b44), .val (.int (fB q1 m1 s2 n2)), .val (.int (1 : Int32))] [(.int (lcmpW q1 q1))])) _
            refine XS.ifNo X65.here hx rfl (hb hby at_165) rfl ((if0 _ _).trans (teq (show (lcmpW q1 q1) = (0 : Int32) from ((lw_eq q1 q1).mpr rfl))).2) ?_
            show Steps p.tables e below (T65.setTop (mkF m 168 #[.val (.long q1), .second, .val (.int p2), .val (.long q3), .second, .val (.long q4), .second, .val (.int p5), .val (.int m1), .val (.long s2), .second, .val (.long n2), .second, .val (.ref b44), .val (.int (fB q1 m1 s2 n2)), .val (.int (1 : Int32))] [])) _
            refine XS.aload X65.here hx rfl (hb hby at_168) rfl rfl ?_
            show Steps p.tables e below (T65.setTop (mkF m 170 #[.val (.long q1), .second, .val (.int p2), .val (.long q3), .second, .val (.long q4), .second, .val (.int p5), .val (.int m1), .val (.long s2), .second, .val (.long n2), .second, .val (.ref b44), .val (.int (fB q1 m1 s2 n2)), .val (.int (1 : Int32))] [(.ref b44)])) _
            exact k)
        obtain ⟨cq67, kq67, q67a, q67b, q67c⟩ := isOf hZ eh65 Es
        obtain ⟨_, _, ⟨T67, L67, k67, n67⟩, -, X67, ⟨Lc67, hQ67, l67, y67, z67⟩, st67⟩ := X65.virtualBack hx (y := (⟨"com/example/wakeline/wakeline/stream/Moment", "nanos", "()I"⟩ : MethodName)) (z := (⟨"com/example/wakeline/wakeline/stream/Moment", "nanos", "()I"⟩ : MethodName)) hown (mvT hZ (hw _ (List.mem_of_getElem? (i := 30) rfl))) (mvT hZ (hw _ (List.mem_of_getElem? (i := 31) rfl))) (notFace_of_selects (args := #[]) (mvT hZ (hw _ (List.mem_of_getElem? (i := 33) rfl)))) (mvT hZ (hw _ (List.mem_of_getElem? (i := 33) rfl))) (mvT hZ (hw _ (List.mem_of_getElem? (i := 32) rfl))) (by decide) (backOf (W := 0) (rmn l Z a0 hw [] b44 m1 T48.heap n0 Zb Fn) hZ (hw _ (List.mem_of_getElem? (i := 34) rfl)) (hw _ (List.mem_of_getElem? (i := 4) rfl)) (by decide) (by decide)) q67a q67c (g := (mkF m 170 #[.val (.long q1), .second, .val (.int p2), .val (.long q3), .second, .val (.long q4), .second, .val (.int p5), .val (.int m1), .val (.long s2), .second, .val (.long n2), .second, .val (.ref b44), .val (.int (fB q1 m1 s2 n2)), .val (.int (1 : Int32))] [(.ref b44)])) rfl (by rw [hml]; rfl) (Steps.refl _) (argsL := []) (rest := []) (lenOf pd_4 rfl) rfl (by show 2 * 0 + _ ≤ _; exact Nat.le_of_eq rfl) (hb hby at_170) (fun _ _ => ⟨rfl, eh65, (by decide : 1 + 0 ≤ _), (by decide : 2 + 0 ≤ _)⟩)
        dsimp only [Pt.U, Pt.locs, Pt.cells, Pt.slots] at X67 l67 y67 z67 st67 hQ67
        subst l67 y67 z67
        obtain ⟨rfl, N67q, eh67⟩ := hQ67
        have N67 := Fr.app N65 N67q
        have pre67 : Goes p e below s₁ (entryFrame m #[(.long q1), (.int p2), (.long q3), (.long q4), (.int p5)] maxLocals) T67 (mkF m 173 #[.val (.long q1), .second, .val (.int p2), .val (.long q3), .second, .val (.long q4), .second, .val (.int p5), .val (.int m1), .val (.long s2), .second, .val (.long n2), .second, .val (.ref b44), .val (.int (fB q1 m1 s2 n2)), .val (.int (1 : Int32))] [(.int m1)]) := fun t k => pre66 t (st67.trans k)
        have pre68 : Goes p e below s₁ (entryFrame m #[(.long q1), (.int p2), (.long q3), (.long q4), (.int p5)] maxLocals) T67 (mkF m 183 #[.val (.long q1), .second, .val (.int p2), .val (.long q3), .second, .val (.long q4), .second, .val (.int p5), .val (.int m1), .val (.long s2), .second, .val (.long n2), .second, .val (.ref b44), .val (.int (fB q1 m1 s2 n2)), .val (.int (1 : Int32))] [(.int (1 : Int32))]) := fun t k => pre67 t (by
            refine XS.iload X67.here hx rfl (hb hby at_173) rfl ?_
            show Steps p.tables e below (T67.setTop (mkF m 175 #[.val (.long q1), .second, .val (.int p2), .val (.long q3), .second, .val (.long q4), .second, .val (.int p5), .val (.int m1), .val (.long s2), .second, .val (.long n2), .second, .val (.ref b44), .val (.int (fB q1 m1 s2 n2)), .val (.int (1 : Int32))] [(.int m1), (.int m1)])) _
            refine XS.icmpNo X67.here hx rfl (hb hby at_175) rfl (teq rfl).2 ?_
            show Steps p.tables e below (T67.setTop (mkF m 178 #[.val (.long q1), .second, .val (.int p2), .val (.long q3), .second, .val (.long q4), .second, .val (.int p5), .val (.int m1), .val (.long s2), .second, .val (.long n2), .second, .val (.ref b44), .val (.int (fB q1 m1 s2 n2)), .val (.int (1 : Int32))] [])) _
            refine XS.iconst X67.here hx rfl (hb hby at_178) ?_
            show Steps p.tables e below (T67.setTop (mkF m 179 #[.val (.long q1), .second, .val (.int p2), .val (.long q3), .second, .val (.long q4), .second, .val (.int p5), .val (.int m1), .val (.long s2), .second, .val (.long n2), .second, .val (.ref b44), .val (.int (fB q1 m1 s2 n2)), .val (.int (1 : Int32))] [(.int (1 : Int32))])) _
            refine XS.goto X67.here hx rfl (pc0 := 179) (pc' := 183) rfl (hb hby at_179) (by decide) (by decide) ?_
            show Steps p.tables e below (T67.setTop (mkF m 183 #[.val (.long q1), .second, .val (.int p2), .val (.long q3), .second, .val (.long q4), .second, .val (.int p5), .val (.int m1), .val (.long s2), .second, .val (.long n2), .second, .val (.ref b44), .val (.int (fB q1 m1 s2 n2)), .val (.int (1 : Int32))] [(.int (1 : Int32))])) _
            exact k)
        obtain ⟨fs, hr, hrun, hended, hW, hsame⟩ := X67.leave (v := some (.int (1 : Int32))) (fun h => by rw [Bd.returns] at h; cases h)
        refine ⟨_, _, pre68 _ (retN X67 hx (t := .boolean) Bd.returns (by simp) (hb hby at_183) hr), hrun, hended, _, _, rfl, ?_, ⟨_, rfl⟩, hW, hsame.mono (by decide) (by decide)⟩
        show Q0 Z q1 p2 q3 q4 p5 h0 n0 _ T67.heap _
        exact ⟨rfl, N67⟩
      · skip
        have pre69 : Goes p e below s₁ (entryFrame m #[(.long q1), (.int p2), (.long q3), (.long q4), (.int p5)] maxLocals) T50 (mkF m 160 #[.val (.long q1), .second, .val (.int p2), .val (.long q3), .second, .val (.long q4), .second, .val (.int p5), .val (.int m1), .val (.long s2), .second, .val (.long n2), .second, .val (.ref b44), .val (.int (fB q1 m1 s2 n2)), .val (.int (0 : Int32))] [(.ref b44)]) := fun t k => pre63 t (by
            refine XS.ifYes X50.here hx rfl (pc0 := 141) (pc' := 148) rfl (hb hby at_141) rfl ((if0 _ _).trans (flt h3).2.1) (by decide) (by decide) ?_
            show Steps p.tables e below (T50.setTop (mkF m 148 #[.val (.long q1), .second, .val (.int p2), .val (.long q3), .second, .val (.long q4), .second, .val (.int p5), .val (.int m1), .val (.long s2), .second, .val (.long n2), .second, .val (.ref b44), .val (.int (fB q1 m1 s2 n2)), .unset] [])) _
            refine XS.iconst X50.here hx rfl (hb hby at_148) ?_
            show Steps p.tables e below (T50.setTop (mkF m 149 #[.val (.long q1), .second, .val (.int p2), .val (.long q3), .second, .val (.long q4), .second, .val (.int p5), .val (.int m1), .val (.long s2), .second, .val (.long n2), .second, .val (.ref b44), .val (.int (fB q1 m1 s2 n2)), .unset] [(.int (0 : Int32))])) _
            refine XS.istore X50.here hx rfl (hb hby at_149) rfl (l' := #[.val (.long q1), .second, .val (.int p2), .val (.long q3), .second, .val (.long q4), .second, .val (.int p5), .val (.int m1), .val (.long s2), .second, .val (.long n2), .second, .val (.ref b44), .val (.int (fB q1 m1 s2 n2)), .val (.int (0 : Int32))]) rfl ?_
            show Steps p.tables e below (T50.setTop (mkF m 151 #[.val (.long q1), .second, .val (.int p2), .val (.long q3), .second, .val (.long q4), .second, .val (.int p5), .val (.int m1), .val (.long s2), .second, .val (.long n2), .second, .val (.ref b44), .val (.int (fB q1 m1 s2 n2)), .val (.int (0 : Int32))] [])) _
            refine XS.iload X50.here hx rfl (hb hby at_151) rfl ?_
            show Steps p.tables e below (T50.setTop (mkF m 153 #[.val (.long q1), .second, .val (.int p2), .val (.long q3), .second, .val (.long q4), .second, .val (.int p5), .val (.int m1), .val (.long s2), .second, .val (.long n2), .second, .val (.ref b44), .val (.int (fB q1 m1 s2 n2)), .val (.int (0 : Int32))] [(.int (fB q1 m1 s2 n2))])) _
            refine XS.iload X50.here hx rfl (hb hby at_153) rfl ?_
            show Steps p.tables e below (T50.setTop (mkF m 155 #[.val (.long q1), .second, .val (.int p2), .val (.long q3), .second, .val (.long q4), .second, .val (.int p5), .val (.int m1), .val (.long s2), .second, .val (.long n2), .second, .val (.ref b44), .val (.int (fB q1 m1 s2 n2)), .val (.int (0 : Int32))] [(.int (0 : Int32)), (.int (fB q1 m1 s2 n2))])) _
            refine XS.icmpNo X50.here hx rfl (hb hby at_155) rfl (teq (show (fB q1 m1 s2 n2) = (0 : Int32) from ((if_neg h1).trans ((if_pos (own_eq q1 s2 h1 h2)).trans (if_neg h3))))).2 ?_
            show Steps p.tables e below (T50.setTop (mkF m 158 #[.val (.long q1), .second, .val (.int p2), .val (.long q3), .second, .val (.long q4), .second, .val (.int p5), .val (.int m1), .val (.long s2), .second, .val (.long n2), .second, .val (.ref b44), .val (.int (fB q1 m1 s2 n2)), .val (.int (0 : Int32))] [])) _
            refine XS.aload X50.here hx rfl (hb hby at_158) rfl rfl ?_
            show Steps p.tables e below (T50.setTop (mkF m 160 #[.val (.long q1), .second, .val (.int p2), .val (.long q3), .second, .val (.long q4), .second, .val (.int p5), .val (.int m1), .val (.long s2), .second, .val (.long n2), .second, .val (.ref b44), .val (.int (fB q1 m1 s2 n2)), .val (.int (0 : Int32))] [(.ref b44)])) _
            exact k)
        obtain ⟨cq70, kq70, q70a, q70b, q70c⟩ := isOf hZ eh50 Es
        obtain ⟨_, _, ⟨T70, L70, k70, n70⟩, -, X70, ⟨Lc70, hQ70, l70, y70, z70⟩, st70⟩ := X50.virtualBack hx (y := (⟨"com/example/wakeline/wakeline/stream/Moment", "seconds", "()J"⟩ : MethodName)) (z := (⟨"com/example/wakeline/wakeline/stream/Moment", "seconds", "()J"⟩ : MethodName)) hown (mvT hZ (hw _ (List.mem_of_getElem? (i := 25) rfl))) (mvT hZ (hw _ (List.mem_of_getElem? (i := 26) rfl))) (notFace_of_selects (args := #[]) (mvT hZ (hw _ (List.mem_of_getElem? (i := 28) rfl)))) (mvT hZ (hw _ (List.mem_of_getElem? (i := 28) rfl))) (mvT hZ (hw _ (List.mem_of_getElem? (i := 27) rfl))) (by decide) (backOf (W := 0) (rmc l Z a0 hw [] b44 q1 T48.heap n0 Zb Fs) hZ (hw _ (List.mem_of_getElem? (i := 29) rfl)) (hw _ (List.mem_of_getElem? (i := 4) rfl)) (by decide) (by decide)) q70a q70c (g := (mkF m 160 #[.val (.long q1), .second, .val (.int p2), .val (.long q3), .second, .val (.long q4), .second, .val (.int p5), .val (.int m1), .val (.long s2), .second, .val (.long n2), .second, .val (.ref b44), .val (.int (fB q1 m1 s2 n2)), .val (.int (0 : Int32))] [(.ref b44)])) rfl (by rw [hml]; rfl) (Steps.refl _) (argsL := []) (rest := []) (lenOf pd_3 rfl) rfl (by show 2 * 0 + _ ≤ _; exact Nat.le_of_eq rfl) (hb hby at_160) (fun _ _ => ⟨rfl, eh50, (by decide : 1 + 0 ≤ _), (by decide : 2 + 0 ≤ _)⟩)
        dsimp only [Pt.U, Pt.locs, Pt.cells, Pt.slots] at X70 l70 y70 z70 st70 hQ70
        subst l70 y70 z70
        obtain ⟨rfl, N70q, eh70⟩ := hQ70
        have N70 := Fr.app N50 N70q
        have pre70 : Goes p e below s₁ (entryFrame m #[(.long q1), (.int p2), (.long q3), (.long q4), (.int p5)] maxLocals) T70 (mkF m 163 #[.val (.long q1), .second, .val (.int p2), .val (.long q3), .second, .val (.long q4), .second, .val (.int p5), .val (.int m1), .val (.long s2), .second, .val (.long n2), .second, .val (.ref b44), .val (.int (fB q1 m1 s2 n2)), .val (.int (0 : Int32))] [(.long q1)]) := fun t k => pre69 t (st70.trans k)
        have pre71 : Goes p e below s₁ (entryFrame m #[(.long q1), (.int p2), (.long q3), (.long q4), (.int p5)] maxLocals) T70 (mkF m 170 #[.val (.long q1), .second, .val (.int p2), .val (.long q3), .second, .val (.long q4), .second, .val (.int p5), .val (.int m1), .val (.long s2), .second, .val (.long n2), .second, .val (.ref b44), .val (.int (fB q1 m1 s2 n2)), .val (.int (0 : Int32))] [(.ref b44)]) := fun t k => pre70 t (by
            refine XS.lloadN X70.here hx rfl (hb hby at_163) rfl ?_
            show Steps p.tables e below (T70.setTop (mkF m 164 #[.val (.long q1), .second, .val (.int p2), .val (.long q3), .second, .val (.long q4), .second, .val (.int p5), .val (.int m1), .val (.long s2), .second, .val (.long n2), .second, .val (.ref b44), .val (.int (fB q1 m1 s2 n2)), .val (.int (0 : Int32))] [(.long q1), (.long q1)])) _
            refine XS.lcmp X70.here hx rfl (hb hby at_164) rfl ?_
            show Steps p.tables e below (T70.setTop (mkF m 165 #[.val (.long q1), .second, .val (.int p2), .val (.long q3), .second, .val (.long q4), .second, .val (.int p5), .val (.int m1), .val (.long s2), .second, .val (.long n2), .second, .val (.ref b44), .val (.int (fB q1 m1 s2 n2)), .val (.int (0 : Int32))] [(.int (lcmpW q1 q1))])) _
            refine XS.ifNo X70.here hx rfl (hb hby at_165) rfl ((if0 _ _).trans (teq (show (lcmpW q1 q1) = (0 : Int32) from ((lw_eq q1 q1).mpr rfl))).2) ?_
            show Steps p.tables e below (T70.setTop (mkF m 168 #[.val (.long q1), .second, .val (.int p2), .val (.long q3), .second, .val (.long q4), .second, .val (.int p5), .val (.int m1), .val (.long s2), .second, .val (.long n2), .second, .val (.ref b44), .val (.int (fB q1 m1 s2 n2)), .val (.int (0 : Int32))] [])) _
            refine XS.aload X70.here hx rfl (hb hby at_168) rfl rfl ?_
            show Steps p.tables e below (T70.setTop (mkF m 170 #[.val (.long q1), .second, .val (.int p2), .val (.long q3), .second, .val (.long q4), .second, .val (.int p5), .val (.int m1), .val (.long s2), .second, .val (.long n2), .second, .val (.ref b44), .val (.int (fB q1 m1 s2 n2)), .val (.int (0 : Int32))] [(.ref b44)])) _
            exact k)
        obtain ⟨cq72, kq72, q72a, q72b, q72c⟩ := isOf hZ eh70 Es
        obtain ⟨_, _, ⟨T72, L72, k72, n72⟩, -, X72, ⟨Lc72, hQ72, l72, y72, z72⟩, st72⟩ := X70.virtualBack hx (y := (⟨"com/example/wakeline/wakeline/stream/Moment", "nanos", "()I"⟩ : MethodName)) (z := (⟨"com/example/wakeline/wakeline/stream/Moment", "nanos", "()I"⟩ : MethodName)) hown (mvT hZ (hw _ (List.mem_of_getElem? (i := 30) rfl))) (mvT hZ (hw _ (List.mem_of_getElem? (i := 31) rfl))) (notFace_of_selects (args := #[]) (mvT hZ (hw _ (List.mem_of_getElem? (i := 33) rfl)))) (mvT hZ (hw _ (List.mem_of_getElem? (i := 33) rfl))) (mvT hZ (hw _ (List.mem_of_getElem? (i := 32) rfl))) (by decide) (backOf (W := 0) (rmn l Z a0 hw [] b44 m1 T48.heap n0 Zb Fn) hZ (hw _ (List.mem_of_getElem? (i := 34) rfl)) (hw _ (List.mem_of_getElem? (i := 4) rfl)) (by decide) (by decide)) q72a q72c (g := (mkF m 170 #[.val (.long q1), .second, .val (.int p2), .val (.long q3), .second, .val (.long q4), .second, .val (.int p5), .val (.int m1), .val (.long s2), .second, .val (.long n2), .second, .val (.ref b44), .val (.int (fB q1 m1 s2 n2)), .val (.int (0 : Int32))] [(.ref b44)])) rfl (by rw [hml]; rfl) (Steps.refl _) (argsL := []) (rest := []) (lenOf pd_4 rfl) rfl (by show 2 * 0 + _ ≤ _; exact Nat.le_of_eq rfl) (hb hby at_170) (fun _ _ => ⟨rfl, eh70, (by decide : 1 + 0 ≤ _), (by decide : 2 + 0 ≤ _)⟩)
        dsimp only [Pt.U, Pt.locs, Pt.cells, Pt.slots] at X72 l72 y72 z72 st72 hQ72
        subst l72 y72 z72
        obtain ⟨rfl, N72q, eh72⟩ := hQ72
        have N72 := Fr.app N70 N72q
        have pre72 : Goes p e below s₁ (entryFrame m #[(.long q1), (.int p2), (.long q3), (.long q4), (.int p5)] maxLocals) T72 (mkF m 173 #[.val (.long q1), .second, .val (.int p2), .val (.long q3), .second, .val (.long q4), .second, .val (.int p5), .val (.int m1), .val (.long s2), .second, .val (.long n2), .second, .val (.ref b44), .val (.int (fB q1 m1 s2 n2)), .val (.int (0 : Int32))] [(.int m1)]) := fun t k => pre71 t (st72.trans k)
        have pre73 : Goes p e below s₁ (entryFrame m #[(.long q1), (.int p2), (.long q3), (.long q4), (.int p5)] maxLocals) T72 (mkF m 183 #[.val (.long q1), .second, .val (.int p2), .val (.long q3), .second, .val (.long q4), .second, .val (.int p5), .val (.int m1), .val (.long s2), .second, .val (.long n2), .second, .val (.ref b44), .val (.int (fB q1 m1 s2 n2)), .val (.int (0 : Int32))] [(.int (1 : Int32))]) := fun t k => pre72 t (by
            refine XS.iload X72.here hx rfl (hb hby at_173) rfl ?_
            show Steps p.tables e below (T72.setTop (mkF m 175 #[.val (.long q1), .second, .val (.int p2), .val (.long q3), .second, .val (.long q4), .second, .val (.int p5), .val (.int m1), .val (.long s2), .second, .val (.long n2), .second, .val (.ref b44), .val (.int (fB q1 m1 s2 n2)), .val (.int (0 : Int32))] [(.int m1), (.int m1)])) _
            refine XS.icmpNo X72.here hx rfl (hb hby at_175) rfl (teq rfl).2 ?_
            show Steps p.tables e below (T72.setTop (mkF m 178 #[.val (.long q1), .second, .val (.int p2), .val (.long q3), .second, .val (.long q4), .second, .val (.int p5), .val (.int m1), .val (.long s2), .second, .val (.long n2), .second, .val (.ref b44), .val (.int (fB q1 m1 s2 n2)), .val (.int (0 : Int32))] [])) _
            refine XS.iconst X72.here hx rfl (hb hby at_178) ?_
            show Steps p.tables e below (T72.setTop (mkF m 179 #[.val (.long q1), .second, .val (.int p2), .val (.long q3), .second, .val (.long q4), .second, .val (.int p5), .val (.int m1), .val (.long s2), .second, .val (.long n2), .second, .val (.ref b44), .val (.int (fB q1 m1 s2 n2)), .val (.int (0 : Int32))] [(.int (1 : Int32))])) _
            refine XS.goto X72.here hx rfl (pc0 := 179) (pc' := 183) rfl (hb hby at_179) (by decide) (by decide) ?_
            show Steps p.tables e below (T72.setTop (mkF m 183 #[.val (.long q1), .second, .val (.int p2), .val (.long q3), .second, .val (.long q4), .second, .val (.int p5), .val (.int m1), .val (.long s2), .second, .val (.long n2), .second, .val (.ref b44), .val (.int (fB q1 m1 s2 n2)), .val (.int (0 : Int32))] [(.int (1 : Int32))])) _
            exact k)
        obtain ⟨fs, hr, hrun, hended, hW, hsame⟩ := X72.leave (v := some (.int (1 : Int32))) (fun h => by rw [Bd.returns] at h; cases h)
        refine ⟨_, _, pre73 _ (retN X72 hx (t := .boolean) Bd.returns (by simp) (hb hby at_183) hr), hrun, hended, _, _, rfl, ?_, ⟨_, rfl⟩, hW, hsame.mono (by decide) (by decide)⟩
        show Q0 Z q1 p2 q3 q4 p5 h0 n0 _ T72.heap _
        exact ⟨rfl, N72⟩
set_option maxRecDepth 65536 in
set_option maxHeartbeats 40000000 in
theorem comes_1 {Post : Tables → Env → Array Value → State → Outcome → State → Prop} (hpost : ∀ tb e args s v u, (limb_1_1.after args s (.returned v) u = true ∧ limb_1_2.after args s (.returned v) u = true ∧ True) → FrameEnd s (.returned v) u (Jvm.fieldLocs frame_1_writes args s ++ Jvm.arrayLocs frame_1_arrays args s ++ Jvm.staticLocs frame_1_statics s) 16 128 → Post tb e args s (.returned v) u) :
    ArmFor flags0 classFile x code maxLocals ret World_1 tables_1 room_1 Calls_1 rest_1 Pre_1 Post := by
  intro l hfl _ _ p e ha hc hk s m args below hf hA hF happ hP
  obtain ⟨hcalls, hrest, hpre⟩ := hP
  obtain ⟨-, -, -, hnamed, -, -, -, hat⟩ := (Spec.applies_iff hf).mp happ
  obtain ⟨hg, hn⟩ := and_e (Cond.before_iff.mp (show (Jvm.Cond.and given_1 narrow_1).before args s = true from hpre))
  obtain ⟨g0, gr0⟩ := and_e hg
  obtain ⟨w0, w1, w2, w3, w4, rfl⟩ : ∃ w0 w1 w2 w3 w4 : Value, args = #[w0, w1, w2, w3, w4] := by
    have hs : args.size = 5 := by simpa [Cond.value, given_1] using g0
    obtain ⟨L⟩ := args
    match L, hs with
    | [w0, w1, w2, w3, w4], _ => exact ⟨w0, w1, w2, w3, w4, rfl⟩
  have hw := fun d (hd : d ∈ tables_1) => atoms_spec (ws := Jvm.Cond.code x code maxLocals ret :: tables_1) hat d (List.mem_cons_of_mem _ hd)
  obtain ⟨g1, gr1⟩ := and_e gr0
  obtain ⟨i0, ei0⟩ := isL_v g1
  obtain rfl : w0 = (.long i0) := Option.some.inj ei0
  obtain ⟨g2, gr2⟩ := and_e gr1
  obtain ⟨i1, ei1⟩ := is_v g2
  obtain rfl : w1 = (.int i1) := Option.some.inj ei1
  obtain ⟨g3, gr3⟩ := and_e gr2
  obtain ⟨i2, ei2⟩ := isL_v g3
  obtain rfl : w2 = (.long i2) := Option.some.inj ei2
  obtain ⟨g4, gr4⟩ := and_e gr3
  obtain ⟨i3, ei3⟩ := isL_v g4
  obtain rfl : w3 = (.long i3) := Option.some.inj ei3
  obtain ⟨i4, ei4⟩ := is_v gr4
  obtain rfl : w4 = (.int i4) := Option.some.inj ei4
  obtain ⟨n, o, h1, h2, h3, _, L, rfl, ⟨rfl, N⟩, hq⟩ := rm0 l s _ hw tables_1 i0 i1 i2 i3 i4 s.heap s.heap.size (Nat.le_refl _)  p e ha hc hk s m _ below hf ((Spec.applies_iff_loose hf).mp happ).1 ⟨rfl, State.Warmed39.refl s, rfl⟩ trivial
  refine ⟨n, _, h1, h2, h3, hpost _ _ _ _ _ _ ⟨Cond.after_iff.mpr rfl, Cond.after_iff.mpr (eq_i res_at (Term.int_eval (1)) rfl), trivial⟩ ⟨hq.1, hq.2.1, (hq.2.2.sift fun y hy => Or.inr (N y hy)).mono (by decide) (by decide)⟩⟩
theorem main_1_1 : Claimed_1_1 := comes_1 fun _ _ _ _ _ _ h hF => ⟨h.1, hF⟩
theorem main_1_2 : Claimed_1_2 := comes_1 fun _ _ _ _ _ _ h hF => ⟨h.2.1, hF⟩
end Jvm.Pilot.@@N@@
namespace Jvm.Pilot.@@N@@
open Jvm Jvm.ClassFile Sem Op Lib Jvm.Free Jvm.Stand Jvm.Pilot.@@N@@.Jvm.D
/-! MADE BY PROGRAM (witnessworld.py) out of the Statement's table words and the real class files: 9 classes; the members and pool entries that the words name. The judged class is class 1, her method 1. -/
namespace start1
open Jvm.ClassFile
def u (s : String) : CpInfo := .utf8 (stringToUtf16 s)
/-- a pool by its gaps: so many unusable entries, then the entry; so many at the end -/
def gap : Nat → List CpInfo → List CpInfo
  | 0, r => r
  | n + 1, r => .unusable :: gap n r
def poolList (es : List (Nat × CpInfo)) (last : Nat) : List CpInfo := es.foldr (fun e r => gap e.1 (e.2 :: r)) (gap last [])
def pool (es : List (Nat × CpInfo)) (last : Nat) : Array CpInfo := ⟨poolList es last⟩
def fileOf (pool : Array CpInfo) (this : Nat) (attrs : Array Attribute := #[]) (ms : Array MethodInfo := #[]) (fl : Nat := 33) (sup : Nat := 0) (ifs : Array Nat := #[]) (fds : Array FieldInfo := #[]) : ClassFile where
  minorVersion := 0
  majorVersion := 65
  constantPool := pool
  accessFlags := fl
  thisClass := this
  superClass := sup
  interfaces := ifs
  fields := fds
  methods := ms
  attributes := attrs
def plain (name : String) (sup : Option ClassId) : Class where
  name := name
  kind := .ordinary
  loader := none
  accessFlags := 33
  super := sup
  interfaces := #[]
  cf := none
  fields := #[]
  methods := #[]
  instanceTypes := #[]
  staticTypes := #[]
  resolved := #[]
  callSites := []
  init := .initialized
  statics := none
  mirror := none

def pool0 : Array CpInfo := pool [(5, u "<init>"), (0, u "()V"), (1, .class_ 10), (1, u "java/lang/Object")] 113

def k0c0 : Code := { maxStack := 0, maxLocals := 1, code := object_method_1_code, exceptionTable := #[], attributes := #[] }
def k0m0 : Method := { name := "<init>", desc := "()V", sig := { parameters := [], returnType := none }, accessFlags := 1, code := some k0c0 }
/-- java/lang/Object -/
def k0 : Class := { plain "java/lang/Object" none with
  accessFlags := 33
  interfaces := #[]
  cf := some (fileOf pool0 8 #[] #[{ accessFlags := 1, nameIndex := 5, descriptorIndex := 6, attributes := #[] }] 33 0 #[] #[])
  fields := #[]
  methods := #[k0m0]
  instanceTypes := #[]
  staticTypes := #[]
  resolved := Array.replicate 124 none
  statics := none }

def pool1 : Array CpInfo := pool [(2, .class_ 4), (0, .nameAndType 5 6), (0, u "java/lang/Object"), (0, u "<init>"), (0, u "()V"), (0, .integer 2147483647), (0, .integer 1000000000), (2, .long 9223372036854775807), (1, .long 1000000000), (1, .class_ 16), (0, u "com/example/wakeline/wakeline/stream/Moment"), (0, .methodref 15 3), (0, .methodref 15 19), (0, .nameAndType 20 21), (0, u "set"), (0, u "(JI)V"), (0, .methodref 15 23), (0, .nameAndType 24 25), (0, u "before"), (0, u "(JJ)Z"), (0, .methodref 15 27), (0, .nameAndType 28 29), (0, u "seconds"), (0, u "()J"), (0, .methodref 15 31), (0, .nameAndType 32 33), (0, u "nanos"), (0, u "()I"), (0, .class_ 35), (0, u "com/example/wakeline/wakeline/stream/MomentBeforePinLaw"), (2, u "law"), (0, u "(JIJJI)Z")] 3

def k1m0 : Method := { name := "<init>", desc := "()V", sig := { parameters := [], returnType := none }, accessFlags := 1, code := none }
def k1c1 : Code := { maxStack := 5, maxLocals := 16, code := code, exceptionTable := #[], attributes := #[] }
def k1m1 : Method := { name := "law", desc := "(JIJJI)Z", sig := { parameters := [.long, .int, .long, .long, .int], returnType := some .boolean }, accessFlags := 9, code := some k1c1 }
/-- com/example/wakeline/wakeline/stream/MomentBeforePinLaw -/
def k1 : Class := { plain "com/example/wakeline/wakeline/stream/MomentBeforePinLaw" (some 0) with
  accessFlags := 49
  interfaces := #[]
  cf := some (fileOf pool1 34 #[] #[{ accessFlags := 1, nameIndex := 5, descriptorIndex := 6, attributes := #[] }, { accessFlags := 9, nameIndex := 38, descriptorIndex := 39, attributes := #[] }] 49 2 #[] #[])
  fields := #[]
  methods := #[k1m0, k1m1]
  instanceTypes := #[]
  staticTypes := #[]
  resolved := Array.replicate 43 none
  statics := none }

def pool2 : Array CpInfo := pool [(1, .methodref 2 3), (0, .class_ 4), (0, .nameAndType 5 6), (0, u "java/lang/Object"), (0, u "<init>"), (0, u "()V"), (0, .fieldref 8 9), (0, .class_ 10), (0, .nameAndType 11 12), (0, u "com/example/wakeline/wakeline/stream/Moment"), (0, u "seconds"), (0, u "J"), (0, .fieldref 8 14), (0, .nameAndType 15 16), (0, u "nanos"), (0, u "I"), (2, u "set"), (0, u "(JI)V"), (5, u "()J"), (3, u "()I"), (2, u "before"), (0, u "(JJ)Z")] 14

def k2c0 : Code := { maxStack := 1, maxLocals := 1, code := prog_126_method_1_code, exceptionTable := #[], attributes := #[] }
def k2m0 : Method := { name := "<init>", desc := "()V", sig := { parameters := [], returnType := none }, accessFlags := 0, code := some k2c0 }
def k2c1 : Code := { maxStack := 2, maxLocals := 1, code := prog_126_method_2_code, exceptionTable := #[], attributes := #[] }
def k2m1 : Method := { name := "seconds", desc := "()J", sig := { parameters := [], returnType := some .long }, accessFlags := 0, code := some k2c1 }
def k2c2 : Code := { maxStack := 1, maxLocals := 1, code := prog_126_method_3_code, exceptionTable := #[], attributes := #[] }
def k2m2 : Method := { name := "nanos", desc := "()I", sig := { parameters := [], returnType := some .int }, accessFlags := 0, code := some k2c2 }
def k2c3 : Code := { maxStack := 3, maxLocals := 4, code := prog_126_method_4_code, exceptionTable := #[], attributes := #[] }
def k2m3 : Method := { name := "set", desc := "(JI)V", sig := { parameters := [.long, .int], returnType := none }, accessFlags := 0, code := some k2c3 }
def k2c4 : Code := { maxStack := 4, maxLocals := 5, code := prog_126_method_8_code, exceptionTable := #[], attributes := #[] }
def k2m4 : Method := { name := "before", desc := "(JJ)Z", sig := { parameters := [.long, .long], returnType := some .boolean }, accessFlags := 0, code := some k2c4 }
/-- com/example/wakeline/wakeline/stream/Moment -/
def k2 : Class := { plain "com/example/wakeline/wakeline/stream/Moment" (some 0) with
  accessFlags := 48
  interfaces := #[]
  cf := some (fileOf pool2 8 #[] #[{ accessFlags := 0, nameIndex := 5, descriptorIndex := 6, attributes := #[] }, { accessFlags := 0, nameIndex := 11, descriptorIndex := 26, attributes := #[] }, { accessFlags := 0, nameIndex := 15, descriptorIndex := 30, attributes := #[] }, { accessFlags := 0, nameIndex := 19, descriptorIndex := 20, attributes := #[] }, { accessFlags := 0, nameIndex := 33, descriptorIndex := 34, attributes := #[] }] 48 2 #[] #[{ accessFlags := 2, nameIndex := 11, descriptorIndex := 12, attributes := #[] }, { accessFlags := 2, nameIndex := 15, descriptorIndex := 16, attributes := #[] }])
  fields := #[{ name := "seconds", type := .long, accessFlags := 2, slot := 0, constantValue := 0 }, { name := "nanos", type := .int, accessFlags := 2, slot := 1, constantValue := 0 }]
  methods := #[k2m0, k2m1, k2m2, k2m3, k2m4]
  instanceTypes := #[.long, .int]
  staticTypes := #[]
  resolved := Array.replicate 49 none
  statics := none }

def pool3 : Array CpInfo := pool [(1, u "java/lang/Cloneable"), (0, .class_ 1), (0, u "java/lang/Object"), (0, .class_ 3)] 3

/-- java/lang/Cloneable -/
def k3 : Class := { plain "java/lang/Cloneable" (some 0) with
  accessFlags := 1537
  interfaces := #[]
  cf := some (fileOf pool3 2 #[] #[] 1537 4 #[] #[])
  fields := #[]
  methods := #[]
  instanceTypes := #[]
  staticTypes := #[]
  resolved := Array.replicate 8 none
  statics := none }

def pool4 : Array CpInfo := pool [(1, u "java/io/Serializable"), (0, .class_ 1), (0, u "java/lang/Object"), (0, .class_ 3)] 3

/-- java/io/Serializable -/
def k4 : Class := { plain "java/io/Serializable" (some 0) with
  accessFlags := 1537
  interfaces := #[]
  cf := some (fileOf pool4 2 #[] #[] 1537 4 #[] #[])
  fields := #[]
  methods := #[]
  instanceTypes := #[]
  staticTypes := #[]
  resolved := Array.replicate 8 none
  statics := none }

/-- the primitive byte -/
def k5 : Class := { plain "byte" none with kind := .primitive 'B', accessFlags := 0x411 }
/-- [B -/
def k6 : Class := { plain "[B" (some 0) with kind := .array 5 .byte, interfaces := #[3, 4], accessFlags := 1041 }

/-- the primitive int -/
def k7 : Class := { plain "int" none with kind := .primitive 'I', accessFlags := 0x411 }
/-- [I -/
def k8 : Class := { plain "[I" (some 0) with kind := .array 7 .int, interfaces := #[3, 4], accessFlags := 1041 }

def heap : Heap := #[]
def classes : Array Class := #[k0, k1, k2, k3, k4, k5, k6, k7, k8]
def interned : List (Array UInt16 × Addr) := []
def slotsUsed : Nat := 0
def theMethod : MethodId := ⟨1, 1⟩
def args0 : Array Value := #[.long 5, .int 7, .long 3, .long 4, .int 2]
def aboutOver (below : List Frame) : State where
  vm := { classes := classes, interned := interned.toArray }
  heap := heap
  slotsUsed := slotsUsed
  threads := #[{ frames := .invoking theMethod args0 :: below }]
def below0 : List Frame := [.native { method := ⟨0, 0⟩, args := #[] }]
def about1 : State := aboutOver below0
def p0 : Program := .bare "" "" ""
def e0 : Env := launch0.env 0 0 0
theorem w_frames : about1.frames = Frame.invoking theMethod args0 :: below0 := rfl
set_option maxRecDepth 65536 in
theorem w_args : argsFit about1.vm theMethod args0 = true := by decide +kernel
set_option maxRecDepth 65536 in
theorem w_heap : heapFits about1 = true := by decide +kernel
set_option maxRecDepth 65536 in
theorem w_runnable : about1.curStatus? = some .runnable := by decide +kernel
set_option maxRecDepth 65536 in
theorem w_alone : about1.alone = true := by decide +kernel
set_option maxRecDepth 65536 in
theorem w_named : about1.methodNamed? x = some theMethod := by decide +kernel
set_option maxRecDepth 65536 in
theorem w_hears : about1.hears theMethod below0 = true := by decide +kernel
set_option maxRecDepth 65536 in
theorem w_ripe : about1.ripe theMethod args0 below0 = true := by decide +kernel
theorem w_running : about1.status = .running := rfl
set_option maxRecDepth 65536 in
theorem w_room : about1.hasRoom e0.platform room_1 = true :=
  launch0.hasRoom_least _ room_1 (by decide +kernel) (by decide +kernel) (by decide +kernel) (by decide +kernel) (by decide +kernel) (by decide +kernel)
theorem allAtoms_all (ts : List Jvm.Cond) (a : Array Jvm.Value) (st : Jvm.State) : (allAtoms ts).before a st = ts.all (fun c => c.before a st) := by
  induction ts with
  | nil => rfl
  | cons c t ih =>
    show (Jvm.Cond.and c (allAtoms t)).before a st = _
    rw [Jvm.Cond.before_and, ih, List.all_cons]
def words1 : List Jvm.Cond := Jvm.Cond.code x code maxLocals ret :: tables_1
/-- a 'code' word, met by the world's own term for the bytes: nothing is compared byte by byte -/
theorem code_word {y : MethodName} {bytes : ByteArray} {mx : Nat} {rt : Option FieldType} {a : Array Value} {s : State} {m : MethodId} {meth : Method} {c : Code} (h1 : s.methodNamed? y = some m) (h2 : s.vm.method? m = some meth) (h3 : meth.code = some c) (h4 : c.code = bytes)
    (h5 : (c.maxLocals == mx && c.exceptionTable.isEmpty && decide (c.maxStack ≤ mostOperands) && decide (meth.sig.returnType = rt) && !meth.locks && decide (parseMethodDescriptor y.desc = some meth.sig)) = true) : (Jvm.Cond.code y bytes mx rt).before a s = true := by
  simp only [Bool.and_eq_true, beq_iff_eq, Bool.not_eq_true', decide_eq_true_eq] at h5
  obtain ⟨⟨⟨⟨⟨g1, g2⟩, g3⟩, g4⟩, g5⟩, g6⟩ := h5
  simp [Cond.before, Cond.holds, Cond.value, h1, h2, h3, h4, g1, g2, g3, g4, g5, g6]
def isCode : Jvm.Cond → Bool
  | .code _ _ _ _ => true
  | _ => false
theorem all_split {L : List Jvm.Cond} {P : Jvm.Cond → Bool} (h1 : L.all (fun c => isCode c || P c) = true) (h2 : ∀ c ∈ L.filter isCode, P c = true) : L.all P = true := by
  refine List.all_eq_true.mpr fun c hc => ?_
  have h := List.all_eq_true.mp h1 c hc
  rcases Bool.eq_false_or_eq_true (isCode c) with hi | hi
  · exact h2 c (List.mem_filter.mpr ⟨hc, hi⟩)
  · simpa [hi] using h
set_option maxRecDepth 65536 in
theorem w_c0 : (Jvm.Cond.code x code maxLocals ret).before args0 about1 = true := code_word (m := ⟨1, 1⟩) (meth := k1m1) (c := k1c1) (by decide +kernel) rfl rfl rfl (by decide +kernel)
set_option maxRecDepth 65536 in
theorem w_c1 : (Jvm.Cond.code ({ cls := "com/example/wakeline/wakeline/stream/Moment", name := "<init>", desc := "()V" } : Jvm.MethodName) prog_126_method_1_code (1 : Nat) (Option.none : Option Jvm.ClassFile.FieldType)).before args0 about1 = true := code_word (m := ⟨2, 0⟩) (meth := k2m0) (c := k2c0) (by decide +kernel) rfl rfl rfl (by decide +kernel)
set_option maxRecDepth 65536 in
theorem w_c2 : (Jvm.Cond.code ({ cls := "java/lang/Object", name := "<init>", desc := "()V" } : Jvm.MethodName) object_method_1_code (1 : Nat) (Option.none : Option Jvm.ClassFile.FieldType)).before args0 about1 = true := code_word (m := ⟨0, 0⟩) (meth := k0m0) (c := k0c0) (by decide +kernel) rfl rfl rfl (by decide +kernel)
set_option maxRecDepth 65536 in
theorem w_c3 : (Jvm.Cond.code ({ cls := "com/example/wakeline/wakeline/stream/Moment", name := "set", desc := "(JI)V" } : Jvm.MethodName) prog_126_method_4_code (4 : Nat) (Option.none : Option Jvm.ClassFile.FieldType)).before args0 about1 = true := code_word (m := ⟨2, 3⟩) (meth := k2m3) (c := k2c3) (by decide +kernel) rfl rfl rfl (by decide +kernel)
set_option maxRecDepth 65536 in
theorem w_c4 : (Jvm.Cond.code ({ cls := "com/example/wakeline/wakeline/stream/Moment", name := "before", desc := "(JJ)Z" } : Jvm.MethodName) prog_126_method_8_code (5 : Nat) (Option.some Jvm.ClassFile.FieldType.boolean)).before args0 about1 = true := code_word (m := ⟨2, 4⟩) (meth := k2m4) (c := k2c4) (by decide +kernel) rfl rfl rfl (by decide +kernel)
set_option maxRecDepth 65536 in
theorem w_c5 : (Jvm.Cond.code ({ cls := "com/example/wakeline/wakeline/stream/Moment", name := "seconds", desc := "()J" } : Jvm.MethodName) prog_126_method_2_code (1 : Nat) (Option.some Jvm.ClassFile.FieldType.long)).before args0 about1 = true := code_word (m := ⟨2, 1⟩) (meth := k2m1) (c := k2c1) (by decide +kernel) rfl rfl rfl (by decide +kernel)
set_option maxRecDepth 65536 in
theorem w_c6 : (Jvm.Cond.code ({ cls := "com/example/wakeline/wakeline/stream/Moment", name := "nanos", desc := "()I" } : Jvm.MethodName) prog_126_method_3_code (1 : Nat) (Option.some Jvm.ClassFile.FieldType.int)).before args0 about1 = true := code_word (m := ⟨2, 2⟩) (meth := k2m2) (c := k2c2) (by decide +kernel) rfl rfl rfl (by decide +kernel)
def codes1 : List Jvm.Cond := [Jvm.Cond.code x code maxLocals ret, Jvm.Cond.code ({ cls := "com/example/wakeline/wakeline/stream/Moment", name := "<init>", desc := "()V" } : Jvm.MethodName) prog_126_method_1_code (1 : Nat) (Option.none : Option Jvm.ClassFile.FieldType), Jvm.Cond.code ({ cls := "java/lang/Object", name := "<init>", desc := "()V" } : Jvm.MethodName) object_method_1_code (1 : Nat) (Option.none : Option Jvm.ClassFile.FieldType), Jvm.Cond.code ({ cls := "com/example/wakeline/wakeline/stream/Moment", name := "set", desc := "(JI)V" } : Jvm.MethodName) prog_126_method_4_code (4 : Nat) (Option.none : Option Jvm.ClassFile.FieldType), Jvm.Cond.code ({ cls := "com/example/wakeline/wakeline/stream/Moment", name := "before", desc := "(JJ)Z" } : Jvm.MethodName) prog_126_method_8_code (5 : Nat) (Option.some Jvm.ClassFile.FieldType.boolean), Jvm.Cond.code ({ cls := "com/example/wakeline/wakeline/stream/Moment", name := "seconds", desc := "()J" } : Jvm.MethodName) prog_126_method_2_code (1 : Nat) (Option.some Jvm.ClassFile.FieldType.long), Jvm.Cond.code ({ cls := "com/example/wakeline/wakeline/stream/Moment", name := "nanos", desc := "()I" } : Jvm.MethodName) prog_126_method_3_code (1 : Nat) (Option.some Jvm.ClassFile.FieldType.int)]
set_option maxRecDepth 65536 in
theorem codes_eq : words1.filter isCode = codes1 := rfl
theorem w_codes : ∀ c ∈ words1.filter isCode, c.before args0 about1 = true := by
  rw [codes_eq]
  intro c hc
  simp only [codes1, List.mem_cons, List.not_mem_nil, or_false] at hc
  rcases hc with rfl | rfl | rfl | rfl | rfl | rfl | rfl
  · exact w_c0
  · exact w_c1
  · exact w_c2
  · exact w_c3
  · exact w_c4
  · exact w_c5
  · exact w_c6
set_option maxRecDepth 65536 in
theorem w_t1 : (words1.take 24).all (fun c => isCode c || c.before args0 about1) = true := by decide +kernel
set_option maxRecDepth 65536 in
theorem w_t2 : (words1.drop 24).all (fun c => isCode c || c.before args0 about1) = true := by decide +kernel
theorem w_tables : (allAtoms (Jvm.Cond.code x code maxLocals ret :: tables_1)).before args0 about1 = true := by
  rw [allAtoms_all]
  show words1.all (fun c => c.before args0 about1) = true
  refine all_split ?_ w_codes
  rw [← List.take_append_drop 24 words1, List.all_append, w_t1, w_t2]
  rfl
set_option maxRecDepth 65536 in
theorem w_case : (Jvm.Cond.and given_1 narrow_1).before args0 about1 = true := by decide +kernel
theorem w_applies : (headSpec (Jvm.Cond.code x code maxLocals ret :: tables_1) room_1).applies x e0.platform about1 = true :=
  (Spec.applies_iff w_frames).mpr ⟨w_running, w_runnable, w_alone, w_named, w_hears, w_ripe, w_room, w_tables⟩
theorem atStart : AtStart classFile x code maxLocals ret World_1 tables_1 room_1 Calls_1 rest_1 Pre_1 launch0 p0 e0 about1 theMethod args0 below0 :=
  ⟨lists_1, trivial, launch0.admits_env _ _ _, launch0.least_env, fairChoices_fair.cas, fairChoices_fair.clock, w_frames, w_args, w_heap, w_applies, trivial, trivial, w_case⟩
end start1
theorem witness_1 : WitnessClaimed_1 := ⟨start1.p0, start1.e0, start1.about1, start1.theMethod, start1.args0, start1.below0, start1.atStart⟩
end Jvm.Pilot.@@N@@
