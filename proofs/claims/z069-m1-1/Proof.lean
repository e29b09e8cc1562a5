import JvmDerived
import JvmDerived.Pilot.@@N@@Statement
import JvmDerived.Pilot.@@N@@Code
set_option linter.unusedVariables false
set_option linter.unusedSimpArgs false
namespace Jvm.RoadKit
open Sem ClassFile Op Lib Jvm.Stand Jvm.Free Jvm.LawKit
section New
variable {p : Program} {l : Launch} {e : Env} {R : Room} {s : State} {m : MethodId} {args : Array Value} {below : List Frame} {meth : Method} {c : Code} {T : State} {locs : List Loc} {cells slots : Nat}
theorem retI (X : Stand p l e R s m args below meth c T locs cells slots) (hx : p.tables.exec = Jvm.exec) {pc : Nat} {Ls : Array Slot} {z : Int32} {rest : List Value} (hret : meth.sig.returnType = some .int) (hd : decode c.code pc = .ok (.ireturn, 1)) {fs : List Frame}
    (hl : ∀ (f : JFrame) (acts : List Action), f.method = m → f.locked = none → f.entered = [] → (doReturn e (T.setTop f) acts (some (.int z))).1 = T.setFrames fs) : Steps p.tables e below (T.setTop (mkF m pc Ls (.int z :: rest))) (T.setFrames fs) := by
  have hm' : T.vm.method? m = some meth := X.method'
  have hn : narrow .int (.int z) = .int z := rfl
  show Steps p.tables e below (T.setTop { method := m, pc := pc, locals := Ls, stack := _ :: rest, locked := none }) _
  jvm_step X.here [X.here.top, hx, hd, hm', hret, hn]
  first | (intro acts; rw [hl _ acts rfl rfl rfl]) | rw [hl _ _ rfl rfl rfl]
  exact Steps.refl _
end New
end Jvm.RoadKit
namespace Jvm.Pilot.@@N@@
open Jvm Jvm.ClassFile Sem Op Lib Jvm.Free Jvm.Stand Jvm.LawKit Jvm.RoadKit Bundle Jvm.Pilot.@@N@@.Jvm.D
theorem pd_0 : parseMethodDescriptor "(I)I" = some ⟨[.int], some .int⟩ := by decide +kernel
theorem d1_0 : decode prog_13_method_14_code 0 = .ok (.iload_n 0, 1) := by decide +kernel
theorem d1_1 : decode prog_13_method_14_code 1 = .ok (.bipush 7, 2) := by decide +kernel
theorem d1_3 : decode prog_13_method_14_code 3 = .ok (.iand, 1) := by decide +kernel
theorem d1_4 : decode prog_13_method_14_code 4 = .ok (.bipush 18, 2) := by decide +kernel
theorem d1_6 : decode prog_13_method_14_code 6 = .ok (.ishl, 1) := by decide +kernel
theorem d1_7 : decode prog_13_method_14_code 7 = .ok (.iload_n 0, 1) := by decide +kernel
theorem d1_8 : decode prog_13_method_14_code 8 = .ok (.iconst 4, 1) := by decide +kernel
theorem d1_9 : decode prog_13_method_14_code 9 = .ok (.ishl, 1) := by decide +kernel
theorem d1_10 : decode prog_13_method_14_code 10 = .ok (.ldc 121, 2) := by decide +kernel
theorem d1_12 : decode prog_13_method_14_code 12 = .ok (.iand, 1) := by decide +kernel
theorem d1_13 : decode prog_13_method_14_code 13 = .ok (.ior, 1) := by decide +kernel
theorem d1_14 : decode prog_13_method_14_code 14 = .ok (.iload_n 0, 1) := by decide +kernel
theorem d1_15 : decode prog_13_method_14_code 15 = .ok (.bipush 10, 2) := by decide +kernel
theorem d1_17 : decode prog_13_method_14_code 17 = .ok (.iushr, 1) := by decide +kernel
theorem d1_18 : decode prog_13_method_14_code 18 = .ok (.sipush 4032, 3) := by decide +kernel
theorem d1_21 : decode prog_13_method_14_code 21 = .ok (.iand, 1) := by decide +kernel
theorem d1_22 : decode prog_13_method_14_code 22 = .ok (.ior, 1) := by decide +kernel
theorem d1_23 : decode prog_13_method_14_code 23 = .ok (.iload_n 0, 1) := by decide +kernel
theorem d1_24 : decode prog_13_method_14_code 24 = .ok (.bipush 24, 2) := by decide +kernel
theorem d1_26 : decode prog_13_method_14_code 26 = .ok (.iushr, 1) := by decide +kernel
theorem d1_27 : decode prog_13_method_14_code 27 = .ok (.bipush 63, 2) := by decide +kernel
theorem d1_29 : decode prog_13_method_14_code 29 = .ok (.iand, 1) := by decide +kernel
theorem d1_30 : decode prog_13_method_14_code 30 = .ok (.ior, 1) := by decide +kernel
theorem d1_31 : decode prog_13_method_14_code 31 = .ok (.ireturn, 1) := by decide +kernel
def fF (p1 : Int32) : Int32 := (((((p1 &&& (7 : Int32)) <<< ((18 : Int32) &&& 31)) ||| ((p1 <<< ((4 : Int32) &&& 31)) &&& (258048 : Int32))) ||| (((p1.toUInt32 >>> ((10 : Int32) &&& 31).toUInt32).toInt32) &&& (4032 : Int32))) ||| (((p1.toUInt32 >>> ((24 : Int32) &&& 31).toUInt32).toInt32) &&& (63 : Int32)))
def Q1 (Z : State) (p1 : Int32) (h0 : Heap) (n0 : Nat) (v : Option Value) (h : Heap) (L : List Loc) : Prop := v = some (.int (fF p1)) ∧ Fr n0 L ∧ h = h0
theorem pn_1 : plainName "com/example/marching_octets/marchingoctets/codec/CodePointWriter" = true := by first | (simp [plainName, overriddenIn]; done) | decide +kernel
theorem ef_1 (m : MethodId) (p1 : Int32) : entryFrame m #[(.int p1)] 1 = mkF m 0 #[.val (.int p1)] [] := by first | (simp [entryFrame, mkF, argsToLocals, Value.category]; done) | rfl
set_option maxRecDepth 65536 in
set_option maxHeartbeats 40000000 in
theorem rm1 (l : Launch) (Z : State) (a0 : Array Value) (hw : ∀ d ∈ tables_1, d.before a0 Z = true) (ws : List Jvm.Cond) (p1 : Int32)  (h0 : Heap) (n0 : Nat) (Z0 : n0 ≤ h0.size)  :
    MetFree l (⟨"com/example/marching_octets/marchingoctets/codec/CodePointWriter", "fourByteUtf8", "(I)I"⟩ : MethodName) (head1 (Jvm.Cond.code (⟨"com/example/marching_octets/marchingoctets/codec/CodePointWriter", "fourByteUtf8", "(I)I"⟩ : MethodName) prog_13_method_14_code 1 (some .int) :: ws) ({ frames := 0, cells := 0, slots := 0, locals := 0 } : Room)) (fun a U => a = #[(.int p1)] ∧ Z.Warmed39 U.vm ∧ U.heap = h0) (fun _ _ _ _ _ => True) (fun _ U o U' => ∃ v L, o = .returned v ∧ Q1 Z p1 h0 n0 v U'.heap L ∧ FrameEnd U o U' L ({ frames := 0, cells := 0, slots := 0, locals := 0 } : Room).cells ({ frames := 0, cells := 0, slots := 0, locals := 0 } : Room).slots) := by
  refine MetFree.of_bodySF (plainFor_of_name pn_1) hisR ?_
  intro p e s m args below meth c s₁ Bd hml0 hP hK
  obtain ⟨rfl, hZ, hh⟩ := hP
  have hx := Bd.exec
  have hby := Bd.bytes
  have hml : c.maxLocals = 1 := hml0
  have hown : s.vm.findClass "com/example/marching_octets/marchingoctets/codec/CodePointWriter" = some m.cls := findClass_of_methodNamed Bd.named
  have hnm := (name_of_methodNamed Bd.named Bd.method).1
  have X0 : Stand p l e ({ frames := 0, cells := 0, slots := 0, locals := 0 } : Room) s m #[(.int p1)] below meth c s₁ [] 0 0 := Stand.of_body Bd
  have e0 : s₁.heap = h0 := by rw [← hh, Bd.state]; rfl
  have N0 := Fr.nil n0
  have pre0 : Goes p e below s₁ (entryFrame m #[(.int p1)] 1) s₁ (mkF m 0 #[.val (.int p1)] []) := fun t k => castTop (ef_1 m p1) k
  have pre1 : Goes p e below s₁ (entryFrame m #[(.int p1)] 1) s₁ (mkF m 31 #[.val (.int p1)] [(.int (((((p1 &&& (7 : Int32)) <<< ((18 : Int32) &&& 31)) ||| ((p1 <<< ((4 : Int32) &&& 31)) &&& (258048 : Int32))) ||| (((p1.toUInt32 >>> ((10 : Int32) &&& 31).toUInt32).toInt32) &&& (4032 : Int32))) ||| (((p1.toUInt32 >>> ((24 : Int32) &&& 31).toUInt32).toInt32) &&& (63 : Int32))))]) := fun t k => pre0 t (by
      refine XS.iloadN X0.here hx rfl (hb hby d1_0) rfl ?_
      show Steps p.tables e below (s₁.setTop (mkF m 1 #[.val (.int p1)] [(.int p1)])) _
      refine XS.bipush X0.here hx rfl (hb hby d1_1) ?_
      show Steps p.tables e below (s₁.setTop (mkF m 3 #[.val (.int p1)] [(.int (7 : Int32)), (.int p1)])) _
      refine XS.iand X0.here hx rfl (hb hby d1_3) rfl ?_
      show Steps p.tables e below (s₁.setTop (mkF m 4 #[.val (.int p1)] [(.int (p1 &&& (7 : Int32)))])) _
      refine XS.bipush X0.here hx rfl (hb hby d1_4) ?_
      show Steps p.tables e below (s₁.setTop (mkF m 6 #[.val (.int p1)] [(.int (18 : Int32)), (.int (p1 &&& (7 : Int32)))])) _
      refine XS.ishl X0.here hx rfl (hb hby d1_6) rfl ?_
      show Steps p.tables e below (s₁.setTop (mkF m 7 #[.val (.int p1)] [(.int ((p1 &&& (7 : Int32)) <<< ((18 : Int32) &&& 31)))])) _
      refine XS.iloadN X0.here hx rfl (hb hby d1_7) rfl ?_
      show Steps p.tables e below (s₁.setTop (mkF m 8 #[.val (.int p1)] [(.int p1), (.int ((p1 &&& (7 : Int32)) <<< ((18 : Int32) &&& 31)))])) _
      refine XS.iconst X0.here hx rfl (hb hby d1_8) ?_
      show Steps p.tables e below (s₁.setTop (mkF m 9 #[.val (.int p1)] [(.int (4 : Int32)), (.int p1), (.int ((p1 &&& (7 : Int32)) <<< ((18 : Int32) &&& 31)))])) _
      refine XS.ishl X0.here hx rfl (hb hby d1_9) rfl ?_
      show Steps p.tables e below (s₁.setTop (mkF m 10 #[.val (.int p1)] [(.int (p1 <<< ((4 : Int32) &&& 31))), (.int ((p1 &&& (7 : Int32)) <<< ((18 : Int32) &&& 31)))])) _
      refine X0.ldcInt hx hown (mvT hZ (hw _ (List.mem_of_getElem? (i := 6) rfl))) (g := (mkF m 10 #[.val (.int p1)] [(.int (p1 <<< ((4 : Int32) &&& 31))), (.int ((p1 &&& (7 : Int32)) <<< ((18 : Int32) &&& 31)))])) rfl (hb hby d1_10) _ ?_
      show Steps p.tables e below (s₁.setTop (mkF m 12 #[.val (.int p1)] [(.int (258048 : Int32)), (.int (p1 <<< ((4 : Int32) &&& 31))), (.int ((p1 &&& (7 : Int32)) <<< ((18 : Int32) &&& 31)))])) _
      refine XS.iand X0.here hx rfl (hb hby d1_12) rfl ?_
      show Steps p.tables e below (s₁.setTop (mkF m 13 #[.val (.int p1)] [(.int ((p1 <<< ((4 : Int32) &&& 31)) &&& (258048 : Int32))), (.int ((p1 &&& (7 : Int32)) <<< ((18 : Int32) &&& 31)))])) _
      refine XS.ior X0.here hx rfl (hb hby d1_13) rfl ?_
      show Steps p.tables e below (s₁.setTop (mkF m 14 #[.val (.int p1)] [(.int (((p1 &&& (7 : Int32)) <<< ((18 : Int32) &&& 31)) ||| ((p1 <<< ((4 : Int32) &&& 31)) &&& (258048 : Int32))))])) _
      refine XS.iloadN X0.here hx rfl (hb hby d1_14) rfl ?_
      show Steps p.tables e below (s₁.setTop (mkF m 15 #[.val (.int p1)] [(.int p1), (.int (((p1 &&& (7 : Int32)) <<< ((18 : Int32) &&& 31)) ||| ((p1 <<< ((4 : Int32) &&& 31)) &&& (258048 : Int32))))])) _
      refine XS.bipush X0.here hx rfl (hb hby d1_15) ?_
      show Steps p.tables e below (s₁.setTop (mkF m 17 #[.val (.int p1)] [(.int (10 : Int32)), (.int p1), (.int (((p1 &&& (7 : Int32)) <<< ((18 : Int32) &&& 31)) ||| ((p1 <<< ((4 : Int32) &&& 31)) &&& (258048 : Int32))))])) _
      refine XS.iushr X0.here hx rfl (hb hby d1_17) rfl ?_
      show Steps p.tables e below (s₁.setTop (mkF m 18 #[.val (.int p1)] [(.int ((p1.toUInt32 >>> ((10 : Int32) &&& 31).toUInt32).toInt32)), (.int (((p1 &&& (7 : Int32)) <<< ((18 : Int32) &&& 31)) ||| ((p1 <<< ((4 : Int32) &&& 31)) &&& (258048 : Int32))))])) _
      refine XS.sipush X0.here hx rfl (hb hby d1_18) ?_
      show Steps p.tables e below (s₁.setTop (mkF m 21 #[.val (.int p1)] [(.int (4032 : Int32)), (.int ((p1.toUInt32 >>> ((10 : Int32) &&& 31).toUInt32).toInt32)), (.int (((p1 &&& (7 : Int32)) <<< ((18 : Int32) &&& 31)) ||| ((p1 <<< ((4 : Int32) &&& 31)) &&& (258048 : Int32))))])) _
      refine XS.iand X0.here hx rfl (hb hby d1_21) rfl ?_
      show Steps p.tables e below (s₁.setTop (mkF m 22 #[.val (.int p1)] [(.int (((p1.toUInt32 >>> ((10 : Int32) &&& 31).toUInt32).toInt32) &&& (4032 : Int32))), (.int (((p1 &&& (7 : Int32)) <<< ((18 : Int32) &&& 31)) ||| ((p1 <<< ((4 : Int32) &&& 31)) &&& (258048 : Int32))))])) _
      refine XS.ior X0.here hx rfl (hb hby d1_22) rfl ?_
      show Steps p.tables e below (s₁.setTop (mkF m 23 #[.val (.int p1)] [(.int ((((p1 &&& (7 : Int32)) <<< ((18 : Int32) &&& 31)) ||| ((p1 <<< ((4 : Int32) &&& 31)) &&& (258048 : Int32))) ||| (((p1.toUInt32 >>> ((10 : Int32) &&& 31).toUInt32).toInt32) &&& (4032 : Int32))))])) _
      refine XS.iloadN X0.here hx rfl (hb hby d1_23) rfl ?_
      show Steps p.tables e below (s₁.setTop (mkF m 24 #[.val (.int p1)] [(.int p1), (.int ((((p1 &&& (7 : Int32)) <<< ((18 : Int32) &&& 31)) ||| ((p1 <<< ((4 : Int32) &&& 31)) &&& (258048 : Int32))) ||| (((p1.toUInt32 >>> ((10 : Int32) &&& 31).toUInt32).toInt32) &&& (4032 : Int32))))])) _
      refine XS.bipush X0.here hx rfl (hb hby d1_24) ?_
      show Steps p.tables e below (s₁.setTop (mkF m 26 #[.val (.int p1)] [(.int (24 : Int32)), (.int p1), (.int ((((p1 &&& (7 : Int32)) <<< ((18 : Int32) &&& 31)) ||| ((p1 <<< ((4 : Int32) &&& 31)) &&& (258048 : Int32))) ||| (((p1.toUInt32 >>> ((10 : Int32) &&& 31).toUInt32).toInt32) &&& (4032 : Int32))))])) _
      refine XS.iushr X0.here hx rfl (hb hby d1_26) rfl ?_
      show Steps p.tables e below (s₁.setTop (mkF m 27 #[.val (.int p1)] [(.int ((p1.toUInt32 >>> ((24 : Int32) &&& 31).toUInt32).toInt32)), (.int ((((p1 &&& (7 : Int32)) <<< ((18 : Int32) &&& 31)) ||| ((p1 <<< ((4 : Int32) &&& 31)) &&& (258048 : Int32))) ||| (((p1.toUInt32 >>> ((10 : Int32) &&& 31).toUInt32).toInt32) &&& (4032 : Int32))))])) _
      refine XS.bipush X0.here hx rfl (hb hby d1_27) ?_
      show Steps p.tables e below (s₁.setTop (mkF m 29 #[.val (.int p1)] [(.int (63 : Int32)), (.int ((p1.toUInt32 >>> ((24 : Int32) &&& 31).toUInt32).toInt32)), (.int ((((p1 &&& (7 : Int32)) <<< ((18 : Int32) &&& 31)) ||| ((p1 <<< ((4 : Int32) &&& 31)) &&& (258048 : Int32))) ||| (((p1.toUInt32 >>> ((10 : Int32) &&& 31).toUInt32).toInt32) &&& (4032 : Int32))))])) _
      refine XS.iand X0.here hx rfl (hb hby d1_29) rfl ?_
      show Steps p.tables e below (s₁.setTop (mkF m 30 #[.val (.int p1)] [(.int (((p1.toUInt32 >>> ((24 : Int32) &&& 31).toUInt32).toInt32) &&& (63 : Int32))), (.int ((((p1 &&& (7 : Int32)) <<< ((18 : Int32) &&& 31)) ||| ((p1 <<< ((4 : Int32) &&& 31)) &&& (258048 : Int32))) ||| (((p1.toUInt32 >>> ((10 : Int32) &&& 31).toUInt32).toInt32) &&& (4032 : Int32))))])) _
      refine XS.ior X0.here hx rfl (hb hby d1_30) rfl ?_
      show Steps p.tables e below (s₁.setTop (mkF m 31 #[.val (.int p1)] [(.int (((((p1 &&& (7 : Int32)) <<< ((18 : Int32) &&& 31)) ||| ((p1 <<< ((4 : Int32) &&& 31)) &&& (258048 : Int32))) ||| (((p1.toUInt32 >>> ((10 : Int32) &&& 31).toUInt32).toInt32) &&& (4032 : Int32))) ||| (((p1.toUInt32 >>> ((24 : Int32) &&& 31).toUInt32).toInt32) &&& (63 : Int32))))])) _
      exact k)
  obtain ⟨fs, hr, hrun, hended, hW, hsame⟩ := X0.leave (v := some (.int (((((p1 &&& (7 : Int32)) <<< ((18 : Int32) &&& 31)) ||| ((p1 <<< ((4 : Int32) &&& 31)) &&& (258048 : Int32))) ||| (((p1.toUInt32 >>> ((10 : Int32) &&& 31).toUInt32).toInt32) &&& (4032 : Int32))) ||| (((p1.toUInt32 >>> ((24 : Int32) &&& 31).toUInt32).toInt32) &&& (63 : Int32))))) (fun h => by rw [Bd.returns] at h; cases h)
  refine ⟨_, _, pre1 _ (retI X0 hx Bd.returns (hb hby d1_31) hr), hrun, hended, _, _, rfl, ?_, ⟨_, rfl⟩, hW, hsame.mono (by decide) (by decide)⟩
  show Q1 Z p1 h0 n0 _ s₁.heap _
  rw [e0]
  exact ⟨rfl, N0, rfl⟩
theorem own_cp (x c1 : Int32) (h : c1 = ((x &&& (2147483647 : Int32)) % (1310720 : Int32))) : 0 ≤ c1.toInt ∧ c1.toInt < 2097152 := by
  have h1 := c_mask x 2147483647 31 (by decide) (by decide)
  have h2 := c_irem (x &&& 2147483647) 1310720 1310720 rfl
  have h3 := h2.1 (by omega)
  rw [h]
  omega
theorem own_bits (v : BitVec 32) (hv : ∀ i, 21 ≤ i → v.getLsbD i = false) :
    ∀ b : BitVec 32, b = ((BitVec.ofNat 32 240) ||| v.sshiftRight 18) ||| (((BitVec.ofNat 32 128) ||| (v.sshiftRight 12 &&& (BitVec.ofNat 32 63))) <<< 8) ||| (((BitVec.ofNat 32 128) ||| (v.sshiftRight 6 &&& (BitVec.ofNat 32 63))) <<< 16) ||| (((BitVec.ofNat 32 128) ||| (v &&& (BitVec.ofNat 32 63))) <<< 24) →
    ((b &&& (BitVec.ofNat 32 7)) <<< 18 ||| (b <<< 4 &&& (BitVec.ofNat 32 258048))) ||| (b >>> 10 &&& (BitVec.ofNat 32 4032)) ||| (b >>> 24 &&& (BitVec.ofNat 32 63)) = v := by
  intro b hb
  have k : v.msb = false := by rw [BitVec.msb_eq_getLsbD_last]; exact hv _ (by decide)
  rw [BitVec.sshiftRight_eq_of_msb_false k, BitVec.sshiftRight_eq_of_msb_false k, BitVec.sshiftRight_eq_of_msb_false k] at hb
  have hg : ∀ j, b.getLsbD j = ((((((BitVec.ofNat 32 240)).getLsbD j || v.getLsbD (18 + j)) || (decide (j < 32) && !decide (j < 8) && (((BitVec.ofNat 32 128)).getLsbD (j - 8) || (v.getLsbD (12 + (j - 8)) && ((BitVec.ofNat 32 63)).getLsbD (j - 8))))) || (decide (j < 32) && !decide (j < 16) && (((BitVec.ofNat 32 128)).getLsbD (j - 16) || (v.getLsbD (6 + (j - 16)) && ((BitVec.ofNat 32 63)).getLsbD (j - 16))))) || (decide (j < 32) && !decide (j < 24) && (((BitVec.ofNat 32 128)).getLsbD (j - 24) || (v.getLsbD (j - 24) && ((BitVec.ofNat 32 63)).getLsbD (j - 24))))) := by
    intro j
    rw [hb]
    simp only [BitVec.getLsbD_or, BitVec.getLsbD_and, BitVec.getLsbD_shiftLeft, BitVec.getLsbD_ushiftRight]
  apply BitVec.eq_of_getLsbD_eq
  intro i hi
  have hc : i = 0 ∨ i = 1 ∨ i = 2 ∨ i = 3 ∨ i = 4 ∨ i = 5 ∨ i = 6 ∨ i = 7 ∨ i = 8 ∨ i = 9 ∨ i = 10 ∨ i = 11 ∨ i = 12 ∨ i = 13 ∨ i = 14 ∨ i = 15 ∨ i = 16 ∨ i = 17 ∨ i = 18 ∨ i = 19 ∨ i = 20 ∨ i = 21 ∨ i = 22 ∨ i = 23 ∨ i = 24 ∨ i = 25 ∨ i = 26 ∨ i = 27 ∨ i = 28 ∨ i = 29 ∨ i = 30 ∨ i = 31 := by omega
  clear hb k
  rcases hc with rfl | rfl | rfl | rfl | rfl | rfl | rfl | rfl | rfl | rfl | rfl | rfl | rfl | rfl | rfl | rfl | rfl | rfl | rfl | rfl | rfl | rfl | rfl | rfl | rfl | rfl | rfl | rfl | rfl | rfl | rfl | rfl <;>
    simp only [BitVec.getLsbD_or, BitVec.getLsbD_and, BitVec.getLsbD_shiftLeft, BitVec.getLsbD_ushiftRight, hg] <;>
    simp (disch := decide) only [hv] <;> simp +decide
theorem own_law (c1 : Int32) (h : 0 ≤ c1.toInt ∧ c1.toInt < 2097152) : fF (((((240 : Int32) ||| (c1 >>> ((18 : Int32) &&& 31))) ||| (((128 : Int32) ||| ((c1 >>> ((12 : Int32) &&& 31)) &&& (63 : Int32))) <<< ((8 : Int32) &&& 31))) ||| (((128 : Int32) ||| ((c1 >>> ((6 : Int32) &&& 31)) &&& (63 : Int32))) <<< ((16 : Int32) &&& 31))) ||| (((128 : Int32) ||| (c1 &&& (63 : Int32))) <<< ((24 : Int32) &&& 31))) = c1 := by
  have hn : c1.toBitVec.toNat < 2 ^ 21 := by
    have q : c1.toInt = c1.toBitVec.toInt := rfl
    have q2 := BitVec.toInt_eq_toNat_cond c1.toBitVec
    have q3 := c1.toBitVec.isLt
    split at q2 <;> omega
  have hv : ∀ i, 21 ≤ i → c1.toBitVec.getLsbD i = false := fun i hi => by
    show c1.toBitVec.toNat.testBit i = false
    exact Nat.testBit_lt_two_pow (Nat.lt_of_lt_of_le hn (Nat.pow_le_pow_right (by decide) hi))
  have key := own_bits c1.toBitVec hv _ rfl
  refine Int32.toBitVec_inj.mp ?_
  refine Eq.trans ?_ key
  simp only [fF, Int32.toBitVec_or, Int32.toBitVec_and, Int32.toBitVec_shiftLeft, Int32.toBitVec_shiftRight]
  rfl
def Q0 (Z : State) (p1 : Int32) (h0 : Heap) (n0 : Nat) (v : Option Value) (h : Heap) (L : List Loc) : Prop := v = some (.int (1 : Int32)) ∧ Fr n0 L
theorem pn_0 : plainName "com/example/marching_octets/marchingoctets/codec/CodePointWriterFourByteUtf8PinLaw" = true := by first | (simp [plainName, overriddenIn]; done) | decide +kernel
theorem ef_0 (m : MethodId) (p1 : Int32) : entryFrame m #[(.int p1)] maxLocals = mkF m 0 #[.val (.int p1), .unset, .unset, .unset, .unset, .unset, .unset] [] := by first | (simp [entryFrame, mkF, argsToLocals, Value.category, maxLocals]; done) | rfl
set_option maxRecDepth 65536 in
set_option maxHeartbeats 40000000 in
theorem rm0 (l : Launch) (Z : State) (a0 : Array Value) (hw : ∀ d ∈ tables_1, d.before a0 Z = true) (ws : List Jvm.Cond) (p1 : Int32)  (h0 : Heap) (n0 : Nat) (Z0 : n0 ≤ h0.size)  :
    MetFree l x (head1 (Jvm.Cond.code x code maxLocals ret :: ws) room_1) (fun a U => a = #[(.int p1)] ∧ Z.Warmed39 U.vm ∧ U.heap = h0) (fun _ _ _ _ _ => True) (fun _ U o U' => ∃ v L, o = .returned v ∧ Q0 Z p1 h0 n0 v U'.heap L ∧ FrameEnd U o U' L room_1.cells room_1.slots) := by
  refine MetFree.of_bodySF (plainFor_of_name pn_0) hisR ?_
  intro p e s m args below meth c s₁ Bd hml0 hP hK
  obtain ⟨rfl, hZ, hh⟩ := hP
  have hx := Bd.exec
  have hby := Bd.bytes
  have hml : c.maxLocals = 7 := hml0
  have hown : s.vm.findClass "com/example/marching_octets/marchingoctets/codec/CodePointWriterFourByteUtf8PinLaw" = some m.cls := findClass_of_methodNamed Bd.named
  have hnm := (name_of_methodNamed Bd.named Bd.method).1
  have X0 : Stand p l e room_1 s m #[(.int p1)] below meth c s₁ [] 0 0 := Stand.of_body Bd
  have e0 : s₁.heap = h0 := by rw [← hh, Bd.state]; rfl
  have N0 := Fr.nil n0
  have pre0 : Goes p e below s₁ (entryFrame m #[(.int p1)] maxLocals) s₁ (mkF m 0 #[.val (.int p1), .unset, .unset, .unset, .unset, .unset, .unset] []) := fun t k => castTop (ef_0 m p1) k
  have pre2 : Goes p e below s₁ (entryFrame m #[(.int p1)] maxLocals) s₁ (mkF m 8 #[.val (.int p1), .val (.int ((p1 &&& (2147483647 : Int32)) % (1310720 : Int32))), .unset, .unset, .unset, .unset, .unset] []) := fun t k => pre0 t (by
      refine XS.iloadN X0.here hx rfl (hb hby at_0) rfl ?_
      show Steps p.tables e below (s₁.setTop (mkF m 1 #[.val (.int p1), .unset, .unset, .unset, .unset, .unset, .unset] [(.int p1)])) _
      refine X0.ldcInt hx hown (mvT hZ (hw _ (List.mem_of_getElem? (i := 0) rfl))) (g := (mkF m 1 #[.val (.int p1), .unset, .unset, .unset, .unset, .unset, .unset] [(.int p1)])) rfl (hb hby at_1) _ ?_
      show Steps p.tables e below (s₁.setTop (mkF m 3 #[.val (.int p1), .unset, .unset, .unset, .unset, .unset, .unset] [(.int (2147483647 : Int32)), (.int p1)])) _
      refine XS.iand X0.here hx rfl (hb hby at_3) rfl ?_
      show Steps p.tables e below (s₁.setTop (mkF m 4 #[.val (.int p1), .unset, .unset, .unset, .unset, .unset, .unset] [(.int (p1 &&& (2147483647 : Int32)))])) _
      refine X0.ldcInt hx hown (mvT hZ (hw _ (List.mem_of_getElem? (i := 1) rfl))) (g := (mkF m 4 #[.val (.int p1), .unset, .unset, .unset, .unset, .unset, .unset] [(.int (p1 &&& (2147483647 : Int32)))])) rfl (hb hby at_4) _ ?_
      show Steps p.tables e below (s₁.setTop (mkF m 6 #[.val (.int p1), .unset, .unset, .unset, .unset, .unset, .unset] [(.int (1310720 : Int32)), (.int (p1 &&& (2147483647 : Int32)))])) _
      refine iremM X0 hx rfl (hb hby at_6) rfl (by decide) ?_
      show Steps p.tables e below (s₁.setTop (mkF m 7 #[.val (.int p1), .unset, .unset, .unset, .unset, .unset, .unset] [(.int ((p1 &&& (2147483647 : Int32)) % (1310720 : Int32)))])) _
      refine XS.istoreN X0.here hx rfl (hb hby at_7) rfl (l' := #[.val (.int p1), .val (.int ((p1 &&& (2147483647 : Int32)) % (1310720 : Int32))), .unset, .unset, .unset, .unset, .unset]) rfl ?_
      show Steps p.tables e below (s₁.setTop (mkF m 8 #[.val (.int p1), .val (.int ((p1 &&& (2147483647 : Int32)) % (1310720 : Int32))), .unset, .unset, .unset, .unset, .unset] [])) _
      exact k)
  obtain ⟨c1, hc1⟩ : ∃ z, z = ((p1 &&& (2147483647 : Int32)) % (1310720 : Int32)) := ⟨_, rfl⟩
  rw [← hc1] at pre2
  have pre3 : Goes p e below s₁ (entryFrame m #[(.int p1)] maxLocals) s₁ (mkF m 74 #[.val (.int p1), .val (.int c1), .val (.int ((240 : Int32) ||| (c1 >>> ((18 : Int32) &&& 31)))), .val (.int ((128 : Int32) ||| ((c1 >>> ((12 : Int32) &&& 31)) &&& (63 : Int32)))), .val (.int ((128 : Int32) ||| ((c1 >>> ((6 : Int32) &&& 31)) &&& (63 : Int32)))), .val (.int ((128 : Int32) ||| (c1 &&& (63 : Int32)))), .val (.int (((((240 : Int32) ||| (c1 >>> ((18 : Int32) &&& 31))) ||| (((128 : Int32) ||| ((c1 >>> ((12 : Int32) &&& 31)) &&& (63 : Int32))) <<< ((8 : Int32) &&& 31))) ||| (((128 : Int32) ||| ((c1 >>> ((6 : Int32) &&& 31)) &&& (63 : Int32))) <<< ((16 : Int32) &&& 31))) ||| (((128 : Int32) ||| (c1 &&& (63 : Int32))) <<< ((24 : Int32) &&& 31))))] [(.int (((((240 : Int32) ||| (c1 >>> ((18 : Int32) &&& 31))) ||| (((128 : Int32) ||| ((c1 >>> ((12 : Int32) &&& 31)) &&& (63 : Int32))) <<< ((8 : Int32) &&& 31))) ||| (((128 : Int32) ||| ((c1 >>> ((6 : Int32) &&& 31)) &&& (63 : Int32))) <<< ((16 : Int32) &&& 31))) ||| (((128 : Int32) ||| (c1 &&& (63 : Int32))) <<< ((24 : Int32) &&& 31))))]) := fun t k => pre2 t (by
      refine XS.sipush X0.here hx rfl (hb hby at_8) ?_
      show Steps p.tables e below (s₁.setTop (mkF m 11 #[.val (.int p1), .val (.int c1), .unset, .unset, .unset, .unset, .unset] [(.int (240 : Int32))])) _
      refine XS.iloadN X0.here hx rfl (hb hby at_11) rfl ?_
      show Steps p.tables e below (s₁.setTop (mkF m 12 #[.val (.int p1), .val (.int c1), .unset, .unset, .unset, .unset, .unset] [(.int c1), (.int (240 : Int32))])) _
      refine XS.bipush X0.here hx rfl (hb hby at_12) ?_
      show Steps p.tables e below (s₁.setTop (mkF m 14 #[.val (.int p1), .val (.int c1), .unset, .unset, .unset, .unset, .unset] [(.int (18 : Int32)), (.int c1), (.int (240 : Int32))])) _
      refine XS.ishr X0.here hx rfl (hb hby at_14) rfl ?_
      show Steps p.tables e below (s₁.setTop (mkF m 15 #[.val (.int p1), .val (.int c1), .unset, .unset, .unset, .unset, .unset] [(.int (c1 >>> ((18 : Int32) &&& 31))), (.int (240 : Int32))])) _
      refine XS.ior X0.here hx rfl (hb hby at_15) rfl ?_
      show Steps p.tables e below (s₁.setTop (mkF m 16 #[.val (.int p1), .val (.int c1), .unset, .unset, .unset, .unset, .unset] [(.int ((240 : Int32) ||| (c1 >>> ((18 : Int32) &&& 31))))])) _
      refine XS.istoreN X0.here hx rfl (hb hby at_16) rfl (l' := #[.val (.int p1), .val (.int c1), .val (.int ((240 : Int32) ||| (c1 >>> ((18 : Int32) &&& 31)))), .unset, .unset, .unset, .unset]) rfl ?_
      show Steps p.tables e below (s₁.setTop (mkF m 17 #[.val (.int p1), .val (.int c1), .val (.int ((240 : Int32) ||| (c1 >>> ((18 : Int32) &&& 31)))), .unset, .unset, .unset, .unset] [])) _
      refine XS.sipush X0.here hx rfl (hb hby at_17) ?_
      show Steps p.tables e below (s₁.setTop (mkF m 20 #[.val (.int p1), .val (.int c1), .val (.int ((240 : Int32) ||| (c1 >>> ((18 : Int32) &&& 31)))), .unset, .unset, .unset, .unset] [(.int (128 : Int32))])) _
      refine XS.iloadN X0.here hx rfl (hb hby at_20) rfl ?_
      show Steps p.tables e below (s₁.setTop (mkF m 21 #[.val (.int p1), .val (.int c1), .val (.int ((240 : Int32) ||| (c1 >>> ((18 : Int32) &&& 31)))), .unset, .unset, .unset, .unset] [(.int c1), (.int (128 : Int32))])) _
      refine XS.bipush X0.here hx rfl (hb hby at_21) ?_
      show Steps p.tables e below (s₁.setTop (mkF m 23 #[.val (.int p1), .val (.int c1), .val (.int ((240 : Int32) ||| (c1 >>> ((18 : Int32) &&& 31)))), .unset, .unset, .unset, .unset] [(.int (12 : Int32)), (.int c1), (.int (128 : Int32))])) _
      refine XS.ishr X0.here hx rfl (hb hby at_23) rfl ?_
      show Steps p.tables e below (s₁.setTop (mkF m 24 #[.val (.int p1), .val (.int c1), .val (.int ((240 : Int32) ||| (c1 >>> ((18 : Int32) &&& 31)))), .unset, .unset, .unset, .unset] [(.int (c1 >>> ((12 : Int32) &&& 31))), (.int (128 : Int32))])) _
      refine XS.bipush X0.here hx rfl (hb hby at_24) ?_
      show Steps p.tables e below (s₁.setTop (mkF m 26 #[.val (.int p1), .val (.int c1), .val (.int ((240 : Int32) ||| (c1 >>> ((18 : Int32) &&& 31)))), .unset, .unset, .unset, .unset] [(.int (63 : Int32)), (.int (c1 >>> ((12 : Int32) &&& 31))), (.int (128 : Int32))])) _
      refine XS.iand X0.here hx rfl (hb hby at_26) rfl ?_
      show Steps p.tables e below (s₁.setTop (mkF m 27 #[.val (.int p1), .val (.int c1), .val (.int ((240 : Int32) ||| (c1 >>> ((18 : Int32) &&& 31)))), .unset, .unset, .unset, .unset] [(.int ((c1 >>> ((12 : Int32) &&& 31)) &&& (63 : Int32))), (.int (128 : Int32))])) _
      refine XS.ior X0.here hx rfl (hb hby at_27) rfl ?_
      show Steps p.tables e below (s₁.setTop (mkF m 28 #[.val (.int p1), .val (.int c1), .val (.int ((240 : Int32) ||| (c1 >>> ((18 : Int32) &&& 31)))), .unset, .unset, .unset, .unset] [(.int ((128 : Int32) ||| ((c1 >>> ((12 : Int32) &&& 31)) &&& (63 : Int32))))])) _
      refine XS.istoreN X0.here hx rfl (hb hby at_28) rfl (l' := #[.val (.int p1), .val (.int c1), .val (.int ((240 : Int32) ||| (c1 >>> ((18 : Int32) &&& 31)))), .val (.int ((128 : Int32) ||| ((c1 >>> ((12 : Int32) &&& 31)) &&& (63 : Int32)))), .unset, .unset, .unset]) rfl ?_
      show Steps p.tables e below (s₁.setTop (mkF m 29 #[.val (.int p1), .val (.int c1), .val (.int ((240 : Int32) ||| (c1 >>> ((18 : Int32) &&& 31)))), .val (.int ((128 : Int32) ||| ((c1 >>> ((12 : Int32) &&& 31)) &&& (63 : Int32)))), .unset, .unset, .unset] [])) _
      refine XS.sipush X0.here hx rfl (hb hby at_29) ?_
      show Steps p.tables e below (s₁.setTop (mkF m 32 #[.val (.int p1), .val (.int c1), .val (.int ((240 : Int32) ||| (c1 >>> ((18 : Int32) &&& 31)))), .val (.int ((128 : Int32) ||| ((c1 >>> ((12 : Int32) &&& 31)) &&& (63 : Int32)))), .unset, .unset, .unset] [(.int (128 : Int32))])) _
      refine XS.iloadN X0.here hx rfl (hb hby at_32) rfl ?_
      show Steps p.tables e below (s₁.setTop (mkF m 33 #[.val (.int p1), .val (.int c1), .val (.int ((240 : Int32) ||| (c1 >>> ((18 : Int32) &&& 31)))), .val (.int ((128 : Int32) ||| ((c1 >>> ((12 : Int32) &&& 31)) &&& (63 : Int32)))), .unset, .unset, .unset] [(.int c1), (.int (128 : Int32))])) _
      refine XS.bipush X0.here hx rfl (hb hby at_33) ?_
      show Steps p.tables e below (s₁.setTop (mkF m 35 #[.val (.int p1), .val (.int c1), .val (.int ((240 : Int32) ||| (c1 >>> ((18 : Int32) &&& 31)))), .val (.int ((128 : Int32) ||| ((c1 >>> ((12 : Int32) &&& 31)) &&& (63 : Int32)))), .unset, .unset, .unset] [(.int (6 : Int32)), (.int c1), (.int (128 : Int32))])) _
      refine XS.ishr X0.here hx rfl (hb hby at_35) rfl ?_
      show Steps p.tables e below (s₁.setTop (mkF m 36 #[.val (.int p1), .val (.int c1), .val (.int ((240 : Int32) ||| (c1 >>> ((18 : Int32) &&& 31)))), .val (.int ((128 : Int32) ||| ((c1 >>> ((12 : Int32) &&& 31)) &&& (63 : Int32)))), .unset, .unset, .unset] [(.int (c1 >>> ((6 : Int32) &&& 31))), (.int (128 : Int32))])) _
      refine XS.bipush X0.here hx rfl (hb hby at_36) ?_
      show Steps p.tables e below (s₁.setTop (mkF m 38 #[.val (.int p1), .val (.int c1), .val (.int ((240 : Int32) ||| (c1 >>> ((18 : Int32) &&& 31)))), .val (.int ((128 : Int32) ||| ((c1 >>> ((12 : Int32) &&& 31)) &&& (63 : Int32)))), .unset, .unset, .unset] [(.int (63 : Int32)), (.int (c1 >>> ((6 : Int32) &&& 31))), (.int (128 : Int32))])) _
      refine XS.iand X0.here hx rfl (hb hby at_38) rfl ?_
      show Steps p.tables e below (s₁.setTop (mkF m 39 #[.val (.int p1), .val (.int c1), .val (.int ((240 : Int32) ||| (c1 >>> ((18 : Int32) &&& 31)))), .val (.int ((128 : Int32) ||| ((c1 >>> ((12 : Int32) &&& 31)) &&& (63 : Int32)))), .unset, .unset, .unset] [(.int ((c1 >>> ((6 : Int32) &&& 31)) &&& (63 : Int32))), (.int (128 : Int32))])) _
      refine XS.ior X0.here hx rfl (hb hby at_39) rfl ?_
      show Steps p.tables e below (s₁.setTop (mkF m 40 #[.val (.int p1), .val (.int c1), .val (.int ((240 : Int32) ||| (c1 >>> ((18 : Int32) &&& 31)))), .val (.int ((128 : Int32) ||| ((c1 >>> ((12 : Int32) &&& 31)) &&& (63 : Int32)))), .unset, .unset, .unset] [(.int ((128 : Int32) ||| ((c1 >>> ((6 : Int32) &&& 31)) &&& (63 : Int32))))])) _
      refine XS.istore X0.here hx rfl (hb hby at_40) rfl (l' := #[.val (.int p1), .val (.int c1), .val (.int ((240 : Int32) ||| (c1 >>> ((18 : Int32) &&& 31)))), .val (.int ((128 : Int32) ||| ((c1 >>> ((12 : Int32) &&& 31)) &&& (63 : Int32)))), .val (.int ((128 : Int32) ||| ((c1 >>> ((6 : Int32) &&& 31)) &&& (63 : Int32)))), .unset, .unset]) rfl ?_
      show Steps p.tables e below (s₁.setTop (mkF m 42 #[.val (.int p1), .val (.int c1), .val (.int ((240 : Int32) ||| (c1 >>> ((18 : Int32) &&& 31)))), .val (.int ((128 : Int32) ||| ((c1 >>> ((12 : Int32) &&& 31)) &&& (63 : Int32)))), .val (.int ((128 : Int32) ||| ((c1 >>> ((6 : Int32) &&& 31)) &&& (63 : Int32)))), .unset, .unset] [])) _
      refine XS.sipush X0.here hx rfl (hb hby at_42) ?_
      show Steps p.tables e below (s₁.setTop (mkF m 45 #[.val (.int p1), .val (.int c1), .val (.int ((240 : Int32) ||| (c1 >>> ((18 : Int32) &&& 31)))), .val (.int ((128 : Int32) ||| ((c1 >>> ((12 : Int32) &&& 31)) &&& (63 : Int32)))), .val (.int ((128 : Int32) ||| ((c1 >>> ((6 : Int32) &&& 31)) &&& (63 : Int32)))), .unset, .unset] [(.int (128 : Int32))])) _
      refine XS.iloadN X0.here hx rfl (hb hby at_45) rfl ?_
      show Steps p.tables e below (s₁.setTop (mkF m 46 #[.val (.int p1), .val (.int c1), .val (.int ((240 : Int32) ||| (c1 >>> ((18 : Int32) &&& 31)))), .val (.int ((128 : Int32) ||| ((c1 >>> ((12 : Int32) &&& 31)) &&& (63 : Int32)))), .val (.int ((128 : Int32) ||| ((c1 >>> ((6 : Int32) &&& 31)) &&& (63 : Int32)))), .unset, .unset] [(.int c1), (.int (128 : Int32))])) _
      refine XS.bipush X0.here hx rfl (hb hby at_46) ?_
      show Steps p.tables e below (s₁.setTop (mkF m 48 #[.val (.int p1), .val (.int c1), .val (.int ((240 : Int32) ||| (c1 >>> ((18 : Int32) &&& 31)))), .val (.int ((128 : Int32) ||| ((c1 >>> ((12 : Int32) &&& 31)) &&& (63 : Int32)))), .val (.int ((128 : Int32) ||| ((c1 >>> ((6 : Int32) &&& 31)) &&& (63 : Int32)))), .unset, .unset] [(.int (63 : Int32)), (.int c1), (.int (128 : Int32))])) _
      refine XS.iand X0.here hx rfl (hb hby at_48) rfl ?_
      show Steps p.tables e below (s₁.setTop (mkF m 49 #[.val (.int p1), .val (.int c1), .val (.int ((240 : Int32) ||| (c1 >>> ((18 : Int32) &&& 31)))), .val (.int ((128 : Int32) ||| ((c1 >>> ((12 : Int32) &&& 31)) &&& (63 : Int32)))), .val (.int ((128 : Int32) ||| ((c1 >>> ((6 : Int32) &&& 31)) &&& (63 : Int32)))), .unset, .unset] [(.int (c1 &&& (63 : Int32))), (.int (128 : Int32))])) _
      refine XS.ior X0.here hx rfl (hb hby at_49) rfl ?_
      show Steps p.tables e below (s₁.setTop (mkF m 50 #[.val (.int p1), .val (.int c1), .val (.int ((240 : Int32) ||| (c1 >>> ((18 : Int32) &&& 31)))), .val (.int ((128 : Int32) ||| ((c1 >>> ((12 : Int32) &&& 31)) &&& (63 : Int32)))), .val (.int ((128 : Int32) ||| ((c1 >>> ((6 : Int32) &&& 31)) &&& (63 : Int32)))), .unset, .unset] [(.int ((128 : Int32) ||| (c1 &&& (63 : Int32))))])) _
      refine XS.istore X0.here hx rfl (hb hby at_50) rfl (l' := #[.val (.int p1), .val (.int c1), .val (.int ((240 : Int32) ||| (c1 >>> ((18 : Int32) &&& 31)))), .val (.int ((128 : Int32) ||| ((c1 >>> ((12 : Int32) &&& 31)) &&& (63 : Int32)))), .val (.int ((128 : Int32) ||| ((c1 >>> ((6 : Int32) &&& 31)) &&& (63 : Int32)))), .val (.int ((128 : Int32) ||| (c1 &&& (63 : Int32)))), .unset]) rfl ?_
      show Steps p.tables e below (s₁.setTop (mkF m 52 #[.val (.int p1), .val (.int c1), .val (.int ((240 : Int32) ||| (c1 >>> ((18 : Int32) &&& 31)))), .val (.int ((128 : Int32) ||| ((c1 >>> ((12 : Int32) &&& 31)) &&& (63 : Int32)))), .val (.int ((128 : Int32) ||| ((c1 >>> ((6 : Int32) &&& 31)) &&& (63 : Int32)))), .val (.int ((128 : Int32) ||| (c1 &&& (63 : Int32)))), .unset] [])) _
      refine XS.iloadN X0.here hx rfl (hb hby at_52) rfl ?_
      show Steps p.tables e below (s₁.setTop (mkF m 53 #[.val (.int p1), .val (.int c1), .val (.int ((240 : Int32) ||| (c1 >>> ((18 : Int32) &&& 31)))), .val (.int ((128 : Int32) ||| ((c1 >>> ((12 : Int32) &&& 31)) &&& (63 : Int32)))), .val (.int ((128 : Int32) ||| ((c1 >>> ((6 : Int32) &&& 31)) &&& (63 : Int32)))), .val (.int ((128 : Int32) ||| (c1 &&& (63 : Int32)))), .unset] [(.int ((240 : Int32) ||| (c1 >>> ((18 : Int32) &&& 31))))])) _
      refine XS.iloadN X0.here hx rfl (hb hby at_53) rfl ?_
      show Steps p.tables e below (s₁.setTop (mkF m 54 #[.val (.int p1), .val (.int c1), .val (.int ((240 : Int32) ||| (c1 >>> ((18 : Int32) &&& 31)))), .val (.int ((128 : Int32) ||| ((c1 >>> ((12 : Int32) &&& 31)) &&& (63 : Int32)))), .val (.int ((128 : Int32) ||| ((c1 >>> ((6 : Int32) &&& 31)) &&& (63 : Int32)))), .val (.int ((128 : Int32) ||| (c1 &&& (63 : Int32)))), .unset] [(.int ((128 : Int32) ||| ((c1 >>> ((12 : Int32) &&& 31)) &&& (63 : Int32)))), (.int ((240 : Int32) ||| (c1 >>> ((18 : Int32) &&& 31))))])) _
      refine XS.bipush X0.here hx rfl (hb hby at_54) ?_
      show Steps p.tables e below (s₁.setTop (mkF m 56 #[.val (.int p1), .val (.int c1), .val (.int ((240 : Int32) ||| (c1 >>> ((18 : Int32) &&& 31)))), .val (.int ((128 : Int32) ||| ((c1 >>> ((12 : Int32) &&& 31)) &&& (63 : Int32)))), .val (.int ((128 : Int32) ||| ((c1 >>> ((6 : Int32) &&& 31)) &&& (63 : Int32)))), .val (.int ((128 : Int32) ||| (c1 &&& (63 : Int32)))), .unset] [(.int (8 : Int32)), (.int ((128 : Int32) ||| ((c1 >>> ((12 : Int32) &&& 31)) &&& (63 : Int32)))), (.int ((240 : Int32) ||| (c1 >>> ((18 : Int32) &&& 31))))])) _
      refine XS.ishl X0.here hx rfl (hb hby at_56) rfl ?_
      show Steps p.tables e below (s₁.setTop (mkF m 57 #[.val (.int p1), .val (.int c1), .val (.int ((240 : Int32) ||| (c1 >>> ((18 : Int32) &&& 31)))), .val (.int ((128 : Int32) ||| ((c1 >>> ((12 : Int32) &&& 31)) &&& (63 : Int32)))), .val (.int ((128 : Int32) ||| ((c1 >>> ((6 : Int32) &&& 31)) &&& (63 : Int32)))), .val (.int ((128 : Int32) ||| (c1 &&& (63 : Int32)))), .unset] [(.int (((128 : Int32) ||| ((c1 >>> ((12 : Int32) &&& 31)) &&& (63 : Int32))) <<< ((8 : Int32) &&& 31))), (.int ((240 : Int32) ||| (c1 >>> ((18 : Int32) &&& 31))))])) _
      refine XS.ior X0.here hx rfl (hb hby at_57) rfl ?_
      show Steps p.tables e below (s₁.setTop (mkF m 58 #[.val (.int p1), .val (.int c1), .val (.int ((240 : Int32) ||| (c1 >>> ((18 : Int32) &&& 31)))), .val (.int ((128 : Int32) ||| ((c1 >>> ((12 : Int32) &&& 31)) &&& (63 : Int32)))), .val (.int ((128 : Int32) ||| ((c1 >>> ((6 : Int32) &&& 31)) &&& (63 : Int32)))), .val (.int ((128 : Int32) ||| (c1 &&& (63 : Int32)))), .unset] [(.int (((240 : Int32) ||| (c1 >>> ((18 : Int32) &&& 31))) ||| (((128 : Int32) ||| ((c1 >>> ((12 : Int32) &&& 31)) &&& (63 : Int32))) <<< ((8 : Int32) &&& 31))))])) _
      refine XS.iload X0.here hx rfl (hb hby at_58) rfl ?_
      show Steps p.tables e below (s₁.setTop (mkF m 60 #[.val (.int p1), .val (.int c1), .val (.int ((240 : Int32) ||| (c1 >>> ((18 : Int32) &&& 31)))), .val (.int ((128 : Int32) ||| ((c1 >>> ((12 : Int32) &&& 31)) &&& (63 : Int32)))), .val (.int ((128 : Int32) ||| ((c1 >>> ((6 : Int32) &&& 31)) &&& (63 : Int32)))), .val (.int ((128 : Int32) ||| (c1 &&& (63 : Int32)))), .unset] [(.int ((128 : Int32) ||| ((c1 >>> ((6 : Int32) &&& 31)) &&& (63 : Int32)))), (.int (((240 : Int32) ||| (c1 >>> ((18 : Int32) &&& 31))) ||| (((128 : Int32) ||| ((c1 >>> ((12 : Int32) &&& 31)) &&& (63 : Int32))) <<< ((8 : Int32) &&& 31))))])) _
      refine XS.bipush X0.here hx rfl (hb hby at_60) ?_
      show Steps p.tables e below (s₁.setTop (mkF m 62 #[.val (.int p1), .val (.int c1), .val (.int ((240 : Int32) ||| (c1 >>> ((18 : Int32) &&& 31)))), .val (.int ((128 : Int32) ||| ((c1 >>> ((12 : Int32) &&& 31)) &&& (63 : Int32)))), .val (.int ((128 : Int32) ||| ((c1 >>> ((6 : Int32) &&& 31)) &&& (63 : Int32)))), .val (.int ((128 : Int32) ||| (c1 &&& (63 : Int32)))), .unset] [(.int (16 : Int32)), (.int ((128 : Int32) ||| ((c1 >>> ((6 : Int32) &&& 31)) &&& (63 : Int32)))), (.int (((240 : Int32) ||| (c1 >>> ((18 : Int32) &&& 31))) ||| (((128 : Int32) ||| ((c1 >>> ((12 : Int32) &&& 31)) &&& (63 : Int32))) <<< ((8 : Int32) &&& 31))))])) _
      refine XS.ishl X0.here hx rfl (hb hby at_62) rfl ?_
      show Steps p.tables e below (s₁.setTop (mkF m 63 #[.val (.int p1), .val (.int c1), .val (.int ((240 : Int32) ||| (c1 >>> ((18 : Int32) &&& 31)))), .val (.int ((128 : Int32) ||| ((c1 >>> ((12 : Int32) &&& 31)) &&& (63 : Int32)))), .val (.int ((128 : Int32) ||| ((c1 >>> ((6 : Int32) &&& 31)) &&& (63 : Int32)))), .val (.int ((128 : Int32) ||| (c1 &&& (63 : Int32)))), .unset] [(.int (((128 : Int32) ||| ((c1 >>> ((6 : Int32) &&& 31)) &&& (63 : Int32))) <<< ((16 : Int32) &&& 31))), (.int (((240 : Int32) ||| (c1 >>> ((18 : Int32) &&& 31))) ||| (((128 : Int32) ||| ((c1 >>> ((12 : Int32) &&& 31)) &&& (63 : Int32))) <<< ((8 : Int32) &&& 31))))])) _
      refine XS.ior X0.here hx rfl (hb hby at_63) rfl ?_
      show Steps p.tables e below (s₁.setTop (mkF m 64 #[.val (.int p1), .val (.int c1), .val (.int ((240 : Int32) ||| (c1 >>> ((18 : Int32) &&& 31)))), .val (.int ((128 : Int32) ||| ((c1 >>> ((12 : Int32) &&& 31)) &&& (63 : Int32)))), .val (.int ((128 : Int32) ||| ((c1 >>> ((6 : Int32) &&& 31)) &&& (63 : Int32)))), .val (.int ((128 : Int32) ||| (c1 &&& (63 : Int32)))), .unset] [(.int ((((240 : Int32) ||| (c1 >>> ((18 : Int32) &&& 31))) ||| (((128 : Int32) ||| ((c1 >>> ((12 : Int32) &&& 31)) &&& (63 : Int32))) <<< ((8 : Int32) &&& 31))) ||| (((128 : Int32) ||| ((c1 >>> ((6 : Int32) &&& 31)) &&& (63 : Int32))) <<< ((16 : Int32) &&& 31))))])) _
      refine XS.iload X0.here hx rfl (hb hby at_64) rfl ?_
      show Steps p.tables e below (s₁.setTop (mkF m 66 #[.val (.int p1), .val (.int c1), .val (.int ((240 : Int32) ||| (c1 >>> ((18 : Int32) &&& 31)))), .val (.int ((128 : Int32) ||| ((c1 >>> ((12 : Int32) &&& 31)) &&& (63 : Int32)))), .val (.int ((128 : Int32) ||| ((c1 >>> ((6 : Int32) &&& 31)) &&& (63 : Int32)))), .val (.int ((128 : Int32) ||| (c1 &&& (63 : Int32)))), .unset] [(.int ((128 : Int32) ||| (c1 &&& (63 : Int32)))), (.int ((((240 : Int32) ||| (c1 >>> ((18 : Int32) &&& 31))) ||| (((128 : Int32) ||| ((c1 >>> ((12 : Int32) &&& 31)) &&& (63 : Int32))) <<< ((8 : Int32) &&& 31))) ||| (((128 : Int32) ||| ((c1 >>> ((6 : Int32) &&& 31)) &&& (63 : Int32))) <<< ((16 : Int32) &&& 31))))])) _
      refine XS.bipush X0.here hx rfl (hb hby at_66) ?_
      show Steps p.tables e below (s₁.setTop (mkF m 68 #[.val (.int p1), .val (.int c1), .val (.int ((240 : Int32) ||| (c1 >>> ((18 : Int32) &&& 31)))), .val (.int ((128 : Int32) ||| ((c1 >>> ((12 : Int32) &&& 31)) &&& (63 : Int32)))), .val (.int ((128 : Int32) ||| ((c1 >>> ((6 : Int32) &&& 31)) &&& (63 : Int32)))), .val (.int ((128 : Int32) ||| (c1 &&& (63 : Int32)))), .unset] [(.int (24 : Int32)), (.int ((128 : Int32) ||| (c1 &&& (63 : Int32)))), (.int ((((240 : Int32) ||| (c1 >>> ((18 : Int32) &&& 31))) ||| (((128 : Int32) ||| ((c1 >>> ((12 : Int32) &&& 31)) &&& (63 : Int32))) <<< ((8 : Int32) &&& 31))) ||| (((128 : Int32) ||| ((c1 >>> ((6 : Int32) &&& 31)) &&& (63 : Int32))) <<< ((16 : Int32) &&& 31))))])) _
      refine XS.ishl X0.here hx rfl (hb hby at_68) rfl ?_
      show Steps p.tables e below (s₁.setTop (mkF m 69 #[.val (.int p1), .val (.int c1), .val (.int ((240 : Int32) ||| (c1 >>> ((18 : Int32) &&& 31)))), .val (.int ((128 : Int32) ||| ((c1 >>> ((12 : Int32) &&& 31)) &&& (63 : Int32)))), .val (.int ((128 : Int32) ||| ((c1 >>> ((6 : Int32) &&& 31)) &&& (63 : Int32)))), .val (.int ((128 : Int32) ||| (c1 &&& (63 : Int32)))), .unset] [(.int (((128 : Int32) ||| (c1 &&& (63 : Int32))) <<< ((24 : Int32) &&& 31))), (.int ((((240 : Int32) ||| (c1 >>> ((18 : Int32) &&& 31))) ||| (((128 : Int32) ||| ((c1 >>> ((12 : Int32) &&& 31)) &&& (63 : Int32))) <<< ((8 : Int32) &&& 31))) ||| (((128 : Int32) ||| ((c1 >>> ((6 : Int32) &&& 31)) &&& (63 : Int32))) <<< ((16 : Int32) &&& 31))))])) _
      refine XS.ior X0.here hx rfl (hb hby at_69) rfl ?_
      show Steps p.tables e below (s₁.setTop (mkF m 70 #[.val (.int p1), .val (.int c1), .val (.int ((240 : Int32) ||| (c1 >>> ((18 : Int32) &&& 31)))), .val (.int ((128 : Int32) ||| ((c1 >>> ((12 : Int32) &&& 31)) &&& (63 : Int32)))), .val (.int ((128 : Int32) ||| ((c1 >>> ((6 : Int32) &&& 31)) &&& (63 : Int32)))), .val (.int ((128 : Int32) ||| (c1 &&& (63 : Int32)))), .unset] [(.int (((((240 : Int32) ||| (c1 >>> ((18 : Int32) &&& 31))) ||| (((128 : Int32) ||| ((c1 >>> ((12 : Int32) &&& 31)) &&& (63 : Int32))) <<< ((8 : Int32) &&& 31))) ||| (((128 : Int32) ||| ((c1 >>> ((6 : Int32) &&& 31)) &&& (63 : Int32))) <<< ((16 : Int32) &&& 31))) ||| (((128 : Int32) ||| (c1 &&& (63 : Int32))) <<< ((24 : Int32) &&& 31))))])) _
      refine XS.istore X0.here hx rfl (hb hby at_70) rfl (l' := #[.val (.int p1), .val (.int c1), .val (.int ((240 : Int32) ||| (c1 >>> ((18 : Int32) &&& 31)))), .val (.int ((128 : Int32) ||| ((c1 >>> ((12 : Int32) &&& 31)) &&& (63 : Int32)))), .val (.int ((128 : Int32) ||| ((c1 >>> ((6 : Int32) &&& 31)) &&& (63 : Int32)))), .val (.int ((128 : Int32) ||| (c1 &&& (63 : Int32)))), .val (.int (((((240 : Int32) ||| (c1 >>> ((18 : Int32) &&& 31))) ||| (((128 : Int32) ||| ((c1 >>> ((12 : Int32) &&& 31)) &&& (63 : Int32))) <<< ((8 : Int32) &&& 31))) ||| (((128 : Int32) ||| ((c1 >>> ((6 : Int32) &&& 31)) &&& (63 : Int32))) <<< ((16 : Int32) &&& 31))) ||| (((128 : Int32) ||| (c1 &&& (63 : Int32))) <<< ((24 : Int32) &&& 31))))]) rfl ?_
      show Steps p.tables e below (s₁.setTop (mkF m 72 #[.val (.int p1), .val (.int c1), .val (.int ((240 : Int32) ||| (c1 >>> ((18 : Int32) &&& 31)))), .val (.int ((128 : Int32) ||| ((c1 >>> ((12 : Int32) &&& 31)) &&& (63 : Int32)))), .val (.int ((128 : Int32) ||| ((c1 >>> ((6 : Int32) &&& 31)) &&& (63 : Int32)))), .val (.int ((128 : Int32) ||| (c1 &&& (63 : Int32)))), .val (.int (((((240 : Int32) ||| (c1 >>> ((18 : Int32) &&& 31))) ||| (((128 : Int32) ||| ((c1 >>> ((12 : Int32) &&& 31)) &&& (63 : Int32))) <<< ((8 : Int32) &&& 31))) ||| (((128 : Int32) ||| ((c1 >>> ((6 : Int32) &&& 31)) &&& (63 : Int32))) <<< ((16 : Int32) &&& 31))) ||| (((128 : Int32) ||| (c1 &&& (63 : Int32))) <<< ((24 : Int32) &&& 31))))] [])) _
      refine XS.iload X0.here hx rfl (hb hby at_72) rfl ?_
      show Steps p.tables e below (s₁.setTop (mkF m 74 #[.val (.int p1), .val (.int c1), .val (.int ((240 : Int32) ||| (c1 >>> ((18 : Int32) &&& 31)))), .val (.int ((128 : Int32) ||| ((c1 >>> ((12 : Int32) &&& 31)) &&& (63 : Int32)))), .val (.int ((128 : Int32) ||| ((c1 >>> ((6 : Int32) &&& 31)) &&& (63 : Int32)))), .val (.int ((128 : Int32) ||| (c1 &&& (63 : Int32)))), .val (.int (((((240 : Int32) ||| (c1 >>> ((18 : Int32) &&& 31))) ||| (((128 : Int32) ||| ((c1 >>> ((12 : Int32) &&& 31)) &&& (63 : Int32))) <<< ((8 : Int32) &&& 31))) ||| (((128 : Int32) ||| ((c1 >>> ((6 : Int32) &&& 31)) &&& (63 : Int32))) <<< ((16 : Int32) &&& 31))) ||| (((128 : Int32) ||| (c1 &&& (63 : Int32))) <<< ((24 : Int32) &&& 31))))] [(.int (((((240 : Int32) ||| (c1 >>> ((18 : Int32) &&& 31))) ||| (((128 : Int32) ||| ((c1 >>> ((12 : Int32) &&& 31)) &&& (63 : Int32))) <<< ((8 : Int32) &&& 31))) ||| (((128 : Int32) ||| ((c1 >>> ((6 : Int32) &&& 31)) &&& (63 : Int32))) <<< ((16 : Int32) &&& 31))) ||| (((128 : Int32) ||| (c1 &&& (63 : Int32))) <<< ((24 : Int32) &&& 31))))])) _
      exact k)
  obtain ⟨_, _, ⟨T4, L4, k4, n4⟩, -, X4, ⟨Lc4, hQ4, l4, y4, z4⟩, st4⟩ := Jvm.LawKit.callS X0 hx (y := (⟨"com/example/marching_octets/marchingoctets/codec/CodePointWriter", "fourByteUtf8", "(I)I"⟩ : MethodName)) hown (mvT hZ (hw _ (List.mem_of_getElem? (i := 2) rfl))) (mvT hZ (hw _ (List.mem_of_getElem? (i := 3) rfl))) (mvT hZ (hw _ (List.mem_of_getElem? (i := 4) rfl))) (mvT hZ (hw _ (List.mem_of_getElem? (i := 5) rfl))) (by decide) (backOf (W := 0) (rm1 l Z a0 hw [] (((((240 : Int32) ||| (c1 >>> ((18 : Int32) &&& 31))) ||| (((128 : Int32) ||| ((c1 >>> ((12 : Int32) &&& 31)) &&& (63 : Int32))) <<< ((8 : Int32) &&& 31))) ||| (((128 : Int32) ||| ((c1 >>> ((6 : Int32) &&& 31)) &&& (63 : Int32))) <<< ((16 : Int32) &&& 31))) ||| (((128 : Int32) ||| (c1 &&& (63 : Int32))) <<< ((24 : Int32) &&& 31))) h0 n0 Z0) hZ (hw _ (List.mem_of_getElem? (i := 5) rfl)) (hw _ (List.mem_of_getElem? (i := 4) rfl)) (by decide) (by decide)) (g := (mkF m 74 #[.val (.int p1), .val (.int c1), .val (.int ((240 : Int32) ||| (c1 >>> ((18 : Int32) &&& 31)))), .val (.int ((128 : Int32) ||| ((c1 >>> ((12 : Int32) &&& 31)) &&& (63 : Int32)))), .val (.int ((128 : Int32) ||| ((c1 >>> ((6 : Int32) &&& 31)) &&& (63 : Int32)))), .val (.int ((128 : Int32) ||| (c1 &&& (63 : Int32)))), .val (.int (((((240 : Int32) ||| (c1 >>> ((18 : Int32) &&& 31))) ||| (((128 : Int32) ||| ((c1 >>> ((12 : Int32) &&& 31)) &&& (63 : Int32))) <<< ((8 : Int32) &&& 31))) ||| (((128 : Int32) ||| ((c1 >>> ((6 : Int32) &&& 31)) &&& (63 : Int32))) <<< ((16 : Int32) &&& 31))) ||| (((128 : Int32) ||| (c1 &&& (63 : Int32))) <<< ((24 : Int32) &&& 31))))] [(.int (((((240 : Int32) ||| (c1 >>> ((18 : Int32) &&& 31))) ||| (((128 : Int32) ||| ((c1 >>> ((12 : Int32) &&& 31)) &&& (63 : Int32))) <<< ((8 : Int32) &&& 31))) ||| (((128 : Int32) ||| ((c1 >>> ((6 : Int32) &&& 31)) &&& (63 : Int32))) <<< ((16 : Int32) &&& 31))) ||| (((128 : Int32) ||| (c1 &&& (63 : Int32))) <<< ((24 : Int32) &&& 31))))])) rfl (by rw [hml]; rfl) (argsL := [(.int (((((240 : Int32) ||| (c1 >>> ((18 : Int32) &&& 31))) ||| (((128 : Int32) ||| ((c1 >>> ((12 : Int32) &&& 31)) &&& (63 : Int32))) <<< ((8 : Int32) &&& 31))) ||| (((128 : Int32) ||| ((c1 >>> ((6 : Int32) &&& 31)) &&& (63 : Int32))) <<< ((16 : Int32) &&& 31))) ||| (((128 : Int32) ||| (c1 &&& (63 : Int32))) <<< ((24 : Int32) &&& 31))))]) (rest := []) (lenOf pd_0 rfl) rfl (by show 2 * 0 + _ ≤ _; exact Nat.le_of_eq rfl) (hb hby at_74) (fun _ _ => ⟨rfl, e0, (by decide : 0 + 0 ≤ _), (by decide : 0 + 0 ≤ _)⟩)
  dsimp only [Pt.U, Pt.locs, Pt.cells, Pt.slots] at X4 l4 y4 z4 st4 hQ4
  subst l4 y4 z4
  obtain ⟨rfl, N4q, eh4⟩ := hQ4
  have N4 := Fr.app N0 N4q
  have pre4 : Goes p e below s₁ (entryFrame m #[(.int p1)] maxLocals) T4 (mkF m 77 #[.val (.int p1), .val (.int c1), .val (.int ((240 : Int32) ||| (c1 >>> ((18 : Int32) &&& 31)))), .val (.int ((128 : Int32) ||| ((c1 >>> ((12 : Int32) &&& 31)) &&& (63 : Int32)))), .val (.int ((128 : Int32) ||| ((c1 >>> ((6 : Int32) &&& 31)) &&& (63 : Int32)))), .val (.int ((128 : Int32) ||| (c1 &&& (63 : Int32)))), .val (.int (((((240 : Int32) ||| (c1 >>> ((18 : Int32) &&& 31))) ||| (((128 : Int32) ||| ((c1 >>> ((12 : Int32) &&& 31)) &&& (63 : Int32))) <<< ((8 : Int32) &&& 31))) ||| (((128 : Int32) ||| ((c1 >>> ((6 : Int32) &&& 31)) &&& (63 : Int32))) <<< ((16 : Int32) &&& 31))) ||| (((128 : Int32) ||| (c1 &&& (63 : Int32))) <<< ((24 : Int32) &&& 31))))] [(.int (fF (((((240 : Int32) ||| (c1 >>> ((18 : Int32) &&& 31))) ||| (((128 : Int32) ||| ((c1 >>> ((12 : Int32) &&& 31)) &&& (63 : Int32))) <<< ((8 : Int32) &&& 31))) ||| (((128 : Int32) ||| ((c1 >>> ((6 : Int32) &&& 31)) &&& (63 : Int32))) <<< ((16 : Int32) &&& 31))) ||| (((128 : Int32) ||| (c1 &&& (63 : Int32))) <<< ((24 : Int32) &&& 31)))))]) := fun t k => pre3 t (st4 _ k)
  have pre5 : Goes p e below s₁ (entryFrame m #[(.int p1)] maxLocals) T4 (mkF m 86 #[.val (.int p1), .val (.int c1), .val (.int ((240 : Int32) ||| (c1 >>> ((18 : Int32) &&& 31)))), .val (.int ((128 : Int32) ||| ((c1 >>> ((12 : Int32) &&& 31)) &&& (63 : Int32)))), .val (.int ((128 : Int32) ||| ((c1 >>> ((6 : Int32) &&& 31)) &&& (63 : Int32)))), .val (.int ((128 : Int32) ||| (c1 &&& (63 : Int32)))), .val (.int (((((240 : Int32) ||| (c1 >>> ((18 : Int32) &&& 31))) ||| (((128 : Int32) ||| ((c1 >>> ((12 : Int32) &&& 31)) &&& (63 : Int32))) <<< ((8 : Int32) &&& 31))) ||| (((128 : Int32) ||| ((c1 >>> ((6 : Int32) &&& 31)) &&& (63 : Int32))) <<< ((16 : Int32) &&& 31))) ||| (((128 : Int32) ||| (c1 &&& (63 : Int32))) <<< ((24 : Int32) &&& 31))))] [(.int (1 : Int32))]) := fun t k => pre4 t (by
      refine XS.iloadN X4.here hx rfl (hb hby at_77) rfl ?_
      show Steps p.tables e below (T4.setTop (mkF m 78 #[.val (.int p1), .val (.int c1), .val (.int ((240 : Int32) ||| (c1 >>> ((18 : Int32) &&& 31)))), .val (.int ((128 : Int32) ||| ((c1 >>> ((12 : Int32) &&& 31)) &&& (63 : Int32)))), .val (.int ((128 : Int32) ||| ((c1 >>> ((6 : Int32) &&& 31)) &&& (63 : Int32)))), .val (.int ((128 : Int32) ||| (c1 &&& (63 : Int32)))), .val (.int (((((240 : Int32) ||| (c1 >>> ((18 : Int32) &&& 31))) ||| (((128 : Int32) ||| ((c1 >>> ((12 : Int32) &&& 31)) &&& (63 : Int32))) <<< ((8 : Int32) &&& 31))) ||| (((128 : Int32) ||| ((c1 >>> ((6 : Int32) &&& 31)) &&& (63 : Int32))) <<< ((16 : Int32) &&& 31))) ||| (((128 : Int32) ||| (c1 &&& (63 : Int32))) <<< ((24 : Int32) &&& 31))))] [(.int c1), (.int (fF (((((240 : Int32) ||| (c1 >>> ((18 : Int32) &&& 31))) ||| (((128 : Int32) ||| ((c1 >>> ((12 : Int32) &&& 31)) &&& (63 : Int32))) <<< ((8 : Int32) &&& 31))) ||| (((128 : Int32) ||| ((c1 >>> ((6 : Int32) &&& 31)) &&& (63 : Int32))) <<< ((16 : Int32) &&& 31))) ||| (((128 : Int32) ||| (c1 &&& (63 : Int32))) <<< ((24 : Int32) &&& 31)))))])) _
      refine XS.icmpNo X4.here hx rfl (hb hby at_78) rfl (teq (show (fF (((((240 : Int32) ||| (c1 >>> ((18 : Int32) &&& 31))) ||| (((128 : Int32) ||| ((c1 >>> ((12 : Int32) &&& 31)) &&& (63 : Int32))) <<< ((8 : Int32) &&& 31))) ||| (((128 : Int32) ||| ((c1 >>> ((6 : Int32) &&& 31)) &&& (63 : Int32))) <<< ((16 : Int32) &&& 31))) ||| (((128 : Int32) ||| (c1 &&& (63 : Int32))) <<< ((24 : Int32) &&& 31)))) = c1 from (own_law c1 (own_cp p1 c1 hc1)))).2 ?_
      show Steps p.tables e below (T4.setTop (mkF m 81 #[.val (.int p1), .val (.int c1), .val (.int ((240 : Int32) ||| (c1 >>> ((18 : Int32) &&& 31)))), .val (.int ((128 : Int32) ||| ((c1 >>> ((12 : Int32) &&& 31)) &&& (63 : Int32)))), .val (.int ((128 : Int32) ||| ((c1 >>> ((6 : Int32) &&& 31)) &&& (63 : Int32)))), .val (.int ((128 : Int32) ||| (c1 &&& (63 : Int32)))), .val (.int (((((240 : Int32) ||| (c1 >>> ((18 : Int32) &&& 31))) ||| (((128 : Int32) ||| ((c1 >>> ((12 : Int32) &&& 31)) &&& (63 : Int32))) <<< ((8 : Int32) &&& 31))) ||| (((128 : Int32) ||| ((c1 >>> ((6 : Int32) &&& 31)) &&& (63 : Int32))) <<< ((16 : Int32) &&& 31))) ||| (((128 : Int32) ||| (c1 &&& (63 : Int32))) <<< ((24 : Int32) &&& 31))))] [])) _
      refine XS.iconst X4.here hx rfl (hb hby at_81) ?_
      show Steps p.tables e below (T4.setTop (mkF m 82 #[.val (.int p1), .val (.int c1), .val (.int ((240 : Int32) ||| (c1 >>> ((18 : Int32) &&& 31)))), .val (.int ((128 : Int32) ||| ((c1 >>> ((12 : Int32) &&& 31)) &&& (63 : Int32)))), .val (.int ((128 : Int32) ||| ((c1 >>> ((6 : Int32) &&& 31)) &&& (63 : Int32)))), .val (.int ((128 : Int32) ||| (c1 &&& (63 : Int32)))), .val (.int (((((240 : Int32) ||| (c1 >>> ((18 : Int32) &&& 31))) ||| (((128 : Int32) ||| ((c1 >>> ((12 : Int32) &&& 31)) &&& (63 : Int32))) <<< ((8 : Int32) &&& 31))) ||| (((128 : Int32) ||| ((c1 >>> ((6 : Int32) &&& 31)) &&& (63 : Int32))) <<< ((16 : Int32) &&& 31))) ||| (((128 : Int32) ||| (c1 &&& (63 : Int32))) <<< ((24 : Int32) &&& 31))))] [(.int (1 : Int32))])) _
      refine XS.goto X4.here hx rfl (pc0 := 82) (pc' := 86) rfl (hb hby at_82) (by decide) (by decide) ?_
      show Steps p.tables e below (T4.setTop (mkF m 86 #[.val (.int p1), .val (.int c1), .val (.int ((240 : Int32) ||| (c1 >>> ((18 : Int32) &&& 31)))), .val (.int ((128 : Int32) ||| ((c1 >>> ((12 : Int32) &&& 31)) &&& (63 : Int32)))), .val (.int ((128 : Int32) ||| ((c1 >>> ((6 : Int32) &&& 31)) &&& (63 : Int32)))), .val (.int ((128 : Int32) ||| (c1 &&& (63 : Int32)))), .val (.int (((((240 : Int32) ||| (c1 >>> ((18 : Int32) &&& 31))) ||| (((128 : Int32) ||| ((c1 >>> ((12 : Int32) &&& 31)) &&& (63 : Int32))) <<< ((8 : Int32) &&& 31))) ||| (((128 : Int32) ||| ((c1 >>> ((6 : Int32) &&& 31)) &&& (63 : Int32))) <<< ((16 : Int32) &&& 31))) ||| (((128 : Int32) ||| (c1 &&& (63 : Int32))) <<< ((24 : Int32) &&& 31))))] [(.int (1 : Int32))])) _
      exact k)
  obtain ⟨fs, hr, hrun, hended, hW, hsame⟩ := X4.leave (v := some (.int (1 : Int32))) (fun h => by rw [Bd.returns] at h; cases h)
  refine ⟨_, _, pre5 _ (retN X4 hx (t := .boolean) Bd.returns (by simp) (hb hby at_86) hr), hrun, hended, _, _, rfl, ?_, ⟨_, rfl⟩, hW, hsame.mono (by decide) (by decide)⟩
  show Q0 Z p1 h0 n0 _ T4.heap _
  exact ⟨rfl, N4⟩
set_option maxRecDepth 65536 in
set_option maxHeartbeats 40000000 in
theorem comes_1 {Post : Tables → Env → Array Value → State → Outcome → State → Prop} (hpost : ∀ tb e args s v u, (limb_1_1.after args s (.returned v) u = true ∧ limb_1_2.after args s (.returned v) u = true ∧ True) → FrameEnd s (.returned v) u (Jvm.fieldLocs frame_1_writes args s ++ Jvm.arrayLocs frame_1_arrays args s ++ Jvm.staticLocs frame_1_statics s) 0 0 → Post tb e args s (.returned v) u) :
    ArmFor flags0 classFile x code maxLocals ret World_1 tables_1 room_1 Calls_1 rest_1 Pre_1 Post := by
  intro l hfl _ _ p e ha hc hk s m args below hf hA hF happ hP
  obtain ⟨hcalls, hrest, hpre⟩ := hP
  obtain ⟨-, -, -, hnamed, -, -, -, hat⟩ := (Spec.applies_iff hf).mp happ
  obtain ⟨hg, hn⟩ := and_e (Cond.before_iff.mp (show (Jvm.Cond.and given_1 narrow_1).before args s = true from hpre))
  obtain ⟨g0, gr0⟩ := and_e hg
  obtain ⟨w0, rfl⟩ : ∃ w0 : Value, args = #[w0] := by
    have hs : args.size = 1 := by simpa [Cond.value, given_1] using g0
    obtain ⟨L⟩ := args
    match L, hs with
    | [w0], _ => exact ⟨w0, rfl⟩
  have hw := fun d (hd : d ∈ tables_1) => atoms_spec (ws := Jvm.Cond.code x code maxLocals ret :: tables_1) hat d (List.mem_cons_of_mem _ hd)
  obtain ⟨i0, ei0⟩ := is_v gr0
  obtain rfl : w0 = (.int i0) := Option.some.inj ei0
  obtain ⟨n, o, h1, h2, h3, _, L, rfl, ⟨rfl, N⟩, hq⟩ := rm0 l s _ hw tables_1 i0 s.heap s.heap.size (Nat.le_refl _)  p e ha hc hk s m _ below hf ((Spec.applies_iff_loose hf).mp happ).1 ⟨rfl, State.Warmed39.refl s, rfl⟩ trivial
  refine ⟨n, _, h1, h2, h3, hpost _ _ _ _ _ _ ⟨Cond.after_iff.mpr rfl, Cond.after_iff.mpr (eq_i res_at (Term.int_eval (1)) rfl), trivial⟩ ⟨hq.1, hq.2.1, (hq.2.2.sift fun y hy => Or.inr (N y hy)).mono (by decide) (by decide)⟩⟩
theorem main_1_1 : Claimed_1_1 := comes_1 fun _ _ _ _ _ _ h hF => ⟨h.1, hF⟩
theorem main_1_2 : Claimed_1_2 := comes_1 fun _ _ _ _ _ _ h hF => ⟨h.2.1, hF⟩
end Jvm.Pilot.@@N@@
namespace Jvm.Pilot.@@N@@
open Jvm Jvm.ClassFile Sem Op Lib Jvm.Free Jvm.Stand Jvm.Pilot.@@N@@.Jvm.D
/-! MADE BY PROGRAM (witnessworld.py) out of the Statement's table words and the real class files: 12 classes; the members and pool entries that the words name. The judged class is class 1, her method 1. -/
namespace start1
open Jvm.ClassFile
def u (s : String) : CpInfo := .utf8 (stringToUtf16 s)
/-- a pool by its gaps: so many unusable entries, then the entry; so many at the end -/
def gap : Nat → List CpInfo → List CpInfo
  | 0, r => r
  | n + 1, r => .unusable :: gap n r
def poolList (es : List (Nat × CpInfo)) (last : Nat) : List CpInfo := es.foldr (fun e r => gap e.1 (e.2 :: r)) (gap last [])
def pool (es : List (Nat × CpInfo)) (last : Nat) : Array CpInfo := ⟨poolList es last⟩
def fileOf (pool : Array CpInfo) (this : Nat) (attrs : Array Attribute := #[]) (ms : Array MethodInfo := #[]) (fl : Nat := 33) (sup : Nat := 0) (ifs : Array Nat := #[]) (fds : Array FieldInfo := #[]) : ClassFile where
  minorVersion := 0
  majorVersion := 65
  constantPool := pool
  accessFlags := fl
  thisClass := this
  superClass := sup
  interfaces := ifs
  fields := fds
  methods := ms
  attributes := attrs
def plain (name : String) (sup : Option ClassId) : Class where
  name := name
  kind := .ordinary
  loader := none
  accessFlags := 33
  super := sup
  interfaces := #[]
  cf := none
  fields := #[]
  methods := #[]
  instanceTypes := #[]
  staticTypes := #[]
  resolved := #[]
  callSites := []
  init := .initialized
  statics := none
  mirror := none

def pool0 : Array CpInfo := pool [(5, u "<init>"), (0, u "()V"), (1, .class_ 10), (1, u "java/lang/Object")] 113

def k0m0 : Method := { name := "<init>", desc := "()V", sig := { parameters := [], returnType := none }, accessFlags := 1, code := none }
/-- java/lang/Object -/
def k0 : Class := { plain "java/lang/Object" none with
  accessFlags := 33
  interfaces := #[]
  cf := some (fileOf pool0 8 #[] #[{ accessFlags := 1, nameIndex := 5, descriptorIndex := 6, attributes := #[] }] 33 0 #[] #[])
  fields := #[]
  methods := #[k0m0]
  instanceTypes := #[]
  staticTypes := #[]
  resolved := Array.replicate 124 none
  statics := none }

def pool1 : Array CpInfo := pool [(2, .class_ 4), (1, u "java/lang/Object"), (0, u "<init>"), (0, u "()V"), (0, .integer 2147483647), (0, .integer 1310720), (0, .methodref 10 11), (0, .class_ 12), (0, .nameAndType 13 14), (0, u "com/example/marching_octets/marchingoctets/codec/CodePointWriter"), (0, u "fourByteUtf8"), (0, u "(I)I"), (0, .class_ 16), (0, u "com/example/marching_octets/marchingoctets/codec/CodePointWriterFourByteUtf8PinLaw"), (2, u "law"), (0, u "(I)Z")] 3

def k1m0 : Method := { name := "<init>", desc := "()V", sig := { parameters := [], returnType := none }, accessFlags := 1, code := none }
def k1c1 : Code := { maxStack := 3, maxLocals := 7, code := code, exceptionTable := #[], attributes := #[] }
def k1m1 : Method := { name := "law", desc := "(I)Z", sig := { parameters := [.int], returnType := some .boolean }, accessFlags := 9, code := some k1c1 }
/-- com/example/marching_octets/marchingoctets/codec/CodePointWriterFourByteUtf8PinLaw -/
def k1 : Class := { plain "com/example/marching_octets/marchingoctets/codec/CodePointWriterFourByteUtf8PinLaw" (some 0) with
  accessFlags := 49
  interfaces := #[]
  cf := some (fileOf pool1 15 #[] #[{ accessFlags := 1, nameIndex := 5, descriptorIndex := 6, attributes := #[] }, { accessFlags := 9, nameIndex := 19, descriptorIndex := 20, attributes := #[] }] 49 2 #[] #[])
  fields := #[]
  methods := #[k1m0, k1m1]
  instanceTypes := #[]
  staticTypes := #[]
  resolved := Array.replicate 24 none
  statics := none }

def pool2 : Array CpInfo := pool [(1, .class_ 2), (0, u "java/lang/constant/Constable"), (0, .class_ 4), (0, u "java/lang/Object")] 6

/-- java/lang/constant/Constable -/
def k2 : Class := { plain "java/lang/constant/Constable" (some 0) with
  accessFlags := 1537
  interfaces := #[]
  cf := some (fileOf pool2 1 #[] #[] 1537 3 #[] #[])
  fields := #[]
  methods := #[]
  instanceTypes := #[]
  staticTypes := #[]
  resolved := Array.replicate 11 none
  statics := none }

def pool3 : Array CpInfo := pool [(1, .class_ 2), (0, u "java/lang/Comparable"), (0, .class_ 4), (0, u "java/lang/Object")] 7

/-- java/lang/Comparable -/
def k3 : Class := { plain "java/lang/Comparable" (some 0) with
  accessFlags := 1537
  interfaces := #[]
  cf := some (fileOf pool3 1 #[] #[] 1537 3 #[] #[])
  fields := #[]
  methods := #[]
  instanceTypes := #[]
  staticTypes := #[]
  resolved := Array.replicate 12 none
  statics := none }

def pool4 : Array CpInfo := pool [(1, .class_ 2), (0, u "java/io/Serializable"), (0, .class_ 4), (0, u "java/lang/Object")] 2

/-- java/io/Serializable -/
def k4 : Class := { plain "java/io/Serializable" (some 0) with
  accessFlags := 1537
  interfaces := #[]
  cf := some (fileOf pool4 1 #[] #[] 1537 3 #[] #[])
  fields := #[]
  methods := #[]
  instanceTypes := #[]
  staticTypes := #[]
  resolved := Array.replicate 7 none
  statics := none }

def pool5 : Array CpInfo := pool [(2, .class_ 4), (1, u "java/lang/Enum"), (0, u "name"), (0, u "Ljava/lang/String;"), (2, u "ordinal"), (0, u "I"), (1, .class_ 14), (1, u "java/lang/Object"), (4, u "hash"), (86, .class_ 108), (1, u "java/lang/Enum$EnumDesc"), (2, .class_ 112), (0, u "java/lang/constant/Constable"), (0, .class_ 114), (0, u "java/lang/Comparable"), (0, .class_ 116), (0, u "java/io/Serializable")] 87

/-- java/lang/Enum -/
def k5 : Class := { plain "java/lang/Enum" (some 0) with
  accessFlags := 1057
  interfaces := #[2, 3, 4]
  cf := some (fileOf pool5 2 #[.nestMembers #[106]] #[] 1057 12 #[111, 113, 115] #[{ accessFlags := 18, nameIndex := 5, descriptorIndex := 6, attributes := #[] }, { accessFlags := 18, nameIndex := 9, descriptorIndex := 10, attributes := #[] }, { accessFlags := 2, nameIndex := 19, descriptorIndex := 10, attributes := #[] }])
  fields := #[{ name := "name", type := (.object "java/lang/String"), accessFlags := 18, slot := 0, constantValue := 0 }, { name := "ordinal", type := .int, accessFlags := 18, slot := 1, constantValue := 0 }, { name := "hash", type := .int, accessFlags := 2, slot := 2, constantValue := 0 }]
  methods := #[]
  instanceTypes := #[(.object "java/lang/String"), .int, .int]
  staticTypes := #[]
  resolved := Array.replicate 204 none
  statics := none }

def pool6 : Array CpInfo := pool [(1, .class_ 2), (0, u "com/example/marching_octets/marchingoctets/codec/CodePointWriter"), (2, u "UTF_8"), (0, u "Lcom/example/marching_octets/marchingoctets/codec/CodePointWriter;"), (2, u "CESU_8"), (2, u "MODIFIED_UTF_8"), (2, u "UTF_16BE"), (2, u "UTF_16LE"), (2, u "UTF_32BE"), (2, u "UTF_32LE"), (2, u "$VALUES"), (0, u "[Lcom/example/marching_octets/marchingoctets/codec/CodePointWriter;"), (6, .class_ 37), (1, u "java/lang/Enum"), (8, u "mostBytesPerUtf8Byte"), (0, u "I"), (39, u "(I)I"), (8, u "fourByteUtf8"), (24, .integer 258048), (43, .class_ 166), (0, u "com/example/marching_octets/marchingoctets/codec/CodePointWriter$1"), (4, .class_ 172), (0, u "com/example/marching_octets/marchingoctets/codec/CodePointWriter$2"), (2, .class_ 176), (0, u "com/example/marching_octets/marchingoctets/codec/CodePointWriter$3"), (2, .class_ 180), (0, u "com/example/marching_octets/marchingoctets/codec/CodePointWriter$4"), (2, .class_ 184), (0, u "com/example/marching_octets/marchingoctets/codec/CodePointWriter$5"), (2, .class_ 188), (0, u "com/example/marching_octets/marchingoctets/codec/CodePointWriter$6"), (2, .class_ 192), (0, u "com/example/marching_octets/marchingoctets/codec/CodePointWriter$7"), (6, u "MAX_LENGTH"), (2, u "LOW_BYTES"), (0, u "J")] 32

def k6c0 : Code := { maxStack := 3, maxLocals := 1, code := prog_13_method_14_code, exceptionTable := #[], attributes := #[] }
def k6m0 : Method := { name := "fourByteUtf8", desc := "(I)I", sig := { parameters := [.int], returnType := some .int }, accessFlags := 8, code := some k6c0 }
/-- com/example/marching_octets/marchingoctets/codec/CodePointWriter -/
def k6 : Class := { plain "com/example/marching_octets/marchingoctets/codec/CodePointWriter" (some 5) with
  accessFlags := 17440
  interfaces := #[]
  cf := some (fileOf pool6 1 #[.nestMembers #[191, 187, 183, 179, 175, 171, 165]] #[{ accessFlags := 8, nameIndex := 96, descriptorIndex := 87, attributes := #[] }] 17440 35 #[] #[{ accessFlags := 16409, nameIndex := 5, descriptorIndex := 6, attributes := #[] }, { accessFlags := 16409, nameIndex := 9, descriptorIndex := 6, attributes := #[] }, { accessFlags := 16409, nameIndex := 12, descriptorIndex := 6, attributes := #[] }, { accessFlags := 16409, nameIndex := 15, descriptorIndex := 6, attributes := #[] }, { accessFlags := 16409, nameIndex := 18, descriptorIndex := 6, attributes := #[] }, { accessFlags := 16409, nameIndex := 21, descriptorIndex := 6, attributes := #[] }, { accessFlags := 16409, nameIndex := 24, descriptorIndex := 6, attributes := #[] }, { accessFlags := 24, nameIndex := 199, descriptorIndex := 47, attributes := #[] }, { accessFlags := 26, nameIndex := 202, descriptorIndex := 203, attributes := #[] }, { accessFlags := 18, nameIndex := 46, descriptorIndex := 47, attributes := #[] }, { accessFlags := 4122, nameIndex := 27, descriptorIndex := 28, attributes := #[] }])
  fields := #[{ name := "UTF_8", type := (.object "com/example/marching_octets/marchingoctets/codec/CodePointWriter"), accessFlags := 16409, slot := 0, constantValue := 0 }, { name := "CESU_8", type := (.object "com/example/marching_octets/marchingoctets/codec/CodePointWriter"), accessFlags := 16409, slot := 1, constantValue := 0 }, { name := "MODIFIED_UTF_8", type := (.object "com/example/marching_octets/marchingoctets/codec/CodePointWriter"), accessFlags := 16409, slot := 2, constantValue := 0 }, { name := "UTF_16BE", type := (.object "com/example/marching_octets/marchingoctets/codec/CodePointWriter"), accessFlags := 16409, slot := 3, constantValue := 0 }, { name := "UTF_16LE", type := (.object "com/example/marching_octets/marchingoctets/codec/CodePointWriter"), accessFlags := 16409, slot := 4, constantValue := 0 }, { name := "UTF_32BE", type := (.object "com/example/marching_octets/marchingoctets/codec/CodePointWriter"), accessFlags := 16409, slot := 5, constantValue := 0 }, { name := "UTF_32LE", type := (.object "com/example/marching_octets/marchingoctets/codec/CodePointWriter"), accessFlags := 16409, slot := 6, constantValue := 0 }, { name := "MAX_LENGTH", type := .int, accessFlags := 24, slot := 7, constantValue := 0 }, { name := "LOW_BYTES", type := .long, accessFlags := 26, slot := 8, constantValue := 0 }, { name := "mostBytesPerUtf8Byte", type := .int, accessFlags := 18, slot := 3, constantValue := 0 }, { name := "$VALUES", type := (.array (.object "com/example/marching_octets/marchingoctets/codec/CodePointWriter")), accessFlags := 4122, slot := 9, constantValue := 0 }]
  methods := #[k6m0]
  instanceTypes := #[(.object "java/lang/String"), .int, .int, .int]
  staticTypes := #[(.object "com/example/marching_octets/marchingoctets/codec/CodePointWriter"), (.object "com/example/marching_octets/marchingoctets/codec/CodePointWriter"), (.object "com/example/marching_octets/marchingoctets/codec/CodePointWriter"), (.object "com/example/marching_octets/marchingoctets/codec/CodePointWriter"), (.object "com/example/marching_octets/marchingoctets/codec/CodePointWriter"), (.object "com/example/marching_octets/marchingoctets/codec/CodePointWriter"), (.object "com/example/marching_octets/marchingoctets/codec/CodePointWriter"), .int, .long, (.array (.object "com/example/marching_octets/marchingoctets/codec/CodePointWriter"))]
  resolved := Array.replicate 236 none
  statics := none }

def pool7 : Array CpInfo := pool [(1, u "java/lang/Cloneable"), (0, .class_ 1), (0, u "java/lang/Object"), (0, .class_ 3)] 3

/-- java/lang/Cloneable -/
def k7 : Class := { plain "java/lang/Cloneable" (some 0) with
  accessFlags := 1537
  interfaces := #[]
  cf := some (fileOf pool7 2 #[] #[] 1537 4 #[] #[])
  fields := #[]
  methods := #[]
  instanceTypes := #[]
  staticTypes := #[]
  resolved := Array.replicate 8 none
  statics := none }

/-- the primitive byte -/
def k8 : Class := { plain "byte" none with kind := .primitive 'B', accessFlags := 0x411 }
/-- [B -/
def k9 : Class := { plain "[B" (some 0) with kind := .array 8 .byte, interfaces := #[7, 4], accessFlags := 1041 }

/-- the primitive int -/
def k10 : Class := { plain "int" none with kind := .primitive 'I', accessFlags := 0x411 }
/-- [I -/
def k11 : Class := { plain "[I" (some 0) with kind := .array 10 .int, interfaces := #[7, 4], accessFlags := 1041 }

def heap : Heap := #[]
def classes : Array Class := #[k0, k1, k2, k3, k4, k5, k6, k7, k8, k9, k10, k11]
def interned : List (Array UInt16 × Addr) := []
def slotsUsed : Nat := 0
def theMethod : MethodId := ⟨1, 1⟩
def args0 : Array Value := #[.int 5]
def aboutOver (below : List Frame) : State where
  vm := { classes := classes, interned := interned.toArray }
  heap := heap
  slotsUsed := slotsUsed
  threads := #[{ frames := .invoking theMethod args0 :: below }]
def below0 : List Frame := [.native { method := ⟨0, 0⟩, args := #[] }]
def about1 : State := aboutOver below0
def p0 : Program := .bare "" "" ""
def e0 : Env := launch0.env 0 0 0
theorem w_frames : about1.frames = Frame.invoking theMethod args0 :: below0 := rfl
set_option maxRecDepth 65536 in
theorem w_args : argsFit about1.vm theMethod args0 = true := by decide +kernel
set_option maxRecDepth 65536 in
theorem w_heap : heapFits about1 = true := by decide +kernel
set_option maxRecDepth 65536 in
theorem w_runnable : about1.curStatus? = some .runnable := by decide +kernel
set_option maxRecDepth 65536 in
theorem w_alone : about1.alone = true := by decide +kernel
set_option maxRecDepth 65536 in
theorem w_named : about1.methodNamed? x = some theMethod := by decide +kernel
set_option maxRecDepth 65536 in
theorem w_hears : about1.hears theMethod below0 = true := by decide +kernel
set_option maxRecDepth 65536 in
theorem w_ripe : about1.ripe theMethod args0 below0 = true := by decide +kernel
theorem w_running : about1.status = .running := rfl
set_option maxRecDepth 65536 in
theorem w_room : about1.hasRoom e0.platform room_1 = true :=
  launch0.hasRoom_least _ room_1 (by decide +kernel) (by decide +kernel) (by decide +kernel) (by decide +kernel) (by decide +kernel) (by decide +kernel)
theorem allAtoms_all (ts : List Jvm.Cond) (a : Array Jvm.Value) (st : Jvm.State) : (allAtoms ts).before a st = ts.all (fun c => c.before a st) := by
  induction ts with
  | nil => rfl
  | cons c t ih =>
    show (Jvm.Cond.and c (allAtoms t)).before a st = _
    rw [Jvm.Cond.before_and, ih, List.all_cons]
def words1 : List Jvm.Cond := Jvm.Cond.code x code maxLocals ret :: tables_1
/-- a 'code' word, met by the world's own term for the bytes: nothing is compared byte by byte -/
theorem code_word {y : MethodName} {bytes : ByteArray} {mx : Nat} {rt : Option FieldType} {a : Array Value} {s : State} {m : MethodId} {meth : Method} {c : Code} (h1 : s.methodNamed? y = some m) (h2 : s.vm.method? m = some meth) (h3 : meth.code = some c) (h4 : c.code = bytes)
    (h5 : (c.maxLocals == mx && c.exceptionTable.isEmpty && decide (c.maxStack ≤ mostOperands) && decide (meth.sig.returnType = rt) && !meth.locks && decide (parseMethodDescriptor y.desc = some meth.sig)) = true) : (Jvm.Cond.code y bytes mx rt).before a s = true := by
  simp only [Bool.and_eq_true, beq_iff_eq, Bool.not_eq_true', decide_eq_true_eq] at h5
  obtain ⟨⟨⟨⟨⟨g1, g2⟩, g3⟩, g4⟩, g5⟩, g6⟩ := h5
  simp [Cond.before, Cond.holds, Cond.value, h1, h2, h3, h4, g1, g2, g3, g4, g5, g6]
def isCode : Jvm.Cond → Bool
  | .code _ _ _ _ => true
  | _ => false
theorem all_split {L : List Jvm.Cond} {P : Jvm.Cond → Bool} (h1 : L.all (fun c => isCode c || P c) = true) (h2 : ∀ c ∈ L.filter isCode, P c = true) : L.all P = true := by
  refine List.all_eq_true.mpr fun c hc => ?_
  have h := List.all_eq_true.mp h1 c hc
  rcases Bool.eq_false_or_eq_true (isCode c) with hi | hi
  · exact h2 c (List.mem_filter.mpr ⟨hc, hi⟩)
  · simpa [hi] using h
set_option maxRecDepth 65536 in
theorem w_c0 : (Jvm.Cond.code x code maxLocals ret).before args0 about1 = true := code_word (m := ⟨1, 1⟩) (meth := k1m1) (c := k1c1) (by decide +kernel) rfl rfl rfl (by decide +kernel)
set_option maxRecDepth 65536 in
theorem w_c1 : (Jvm.Cond.code ({ cls := "com/example/marching_octets/marchingoctets/codec/CodePointWriter", name := "fourByteUtf8", desc := "(I)I" } : Jvm.MethodName) prog_13_method_14_code (1 : Nat) (Option.some Jvm.ClassFile.FieldType.int)).before args0 about1 = true := code_word (m := ⟨6, 0⟩) (meth := k6m0) (c := k6c0) (by decide +kernel) rfl rfl rfl (by decide +kernel)
def codes1 : List Jvm.Cond := [Jvm.Cond.code x code maxLocals ret, Jvm.Cond.code ({ cls := "com/example/marching_octets/marchingoctets/codec/CodePointWriter", name := "fourByteUtf8", desc := "(I)I" } : Jvm.MethodName) prog_13_method_14_code (1 : Nat) (Option.some Jvm.ClassFile.FieldType.int)]
set_option maxRecDepth 65536 in
theorem codes_eq : words1.filter isCode = codes1 := rfl
theorem w_codes : ∀ c ∈ words1.filter isCode, c.before args0 about1 = true := by
  rw [codes_eq]
  intro c hc
  simp only [codes1, List.mem_cons, List.not_mem_nil, or_false] at hc
  rcases hc with rfl | rfl
  · exact w_c0
  · exact w_c1
set_option maxRecDepth 65536 in
theorem w_t1 : words1.all (fun c => isCode c || c.before args0 about1) = true := by decide +kernel
theorem w_tables : (allAtoms (Jvm.Cond.code x code maxLocals ret :: tables_1)).before args0 about1 = true := by
  rw [allAtoms_all]
  show words1.all (fun c => c.before args0 about1) = true
  refine all_split ?_ w_codes
  rw [w_t1]
set_option maxRecDepth 65536 in
theorem w_case : (Jvm.Cond.and given_1 narrow_1).before args0 about1 = true := by decide +kernel
theorem w_applies : (headSpec (Jvm.Cond.code x code maxLocals ret :: tables_1) room_1).applies x e0.platform about1 = true :=
  (Spec.applies_iff w_frames).mpr ⟨w_running, w_runnable, w_alone, w_named, w_hears, w_ripe, w_room, w_tables⟩
theorem atStart : AtStart classFile x code maxLocals ret World_1 tables_1 room_1 Calls_1 rest_1 Pre_1 launch0 p0 e0 about1 theMethod args0 below0 :=
  ⟨lists_1, trivial, launch0.admits_env _ _ _, launch0.least_env, fairChoices_fair.cas, fairChoices_fair.clock, w_frames, w_args, w_heap, w_applies, trivial, trivial, w_case⟩
end start1
theorem witness_1 : WitnessClaimed_1 := ⟨start1.p0, start1.e0, start1.about1, start1.theMethod, start1.args0, start1.below0, start1.atStart⟩
end Jvm.Pilot.@@N@@
