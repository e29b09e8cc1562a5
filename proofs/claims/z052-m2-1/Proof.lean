import JvmDerived
import JvmDerived.Pilot.@@N@@Statement
import JvmDerived.Pilot.@@N@@Code
set_option linter.unusedVariables false
set_option linter.unusedSimpArgs false
namespace Jvm.RoadKit
open Sem ClassFile Op Lib Jvm.Stand Jvm.Free Jvm.LawKit
section New
variable {p : Program} {l : Launch} {e : Env} {R : Room} {s : State} {m : MethodId} {args : Array Value} {below : List Frame} {meth : Method} {c : Code} {T : State} {locs : List Loc} {cells slots : Nat}
theorem retI (X : Stand p l e R s m args below meth c T locs cells slots) (hx : p.tables.exec = Jvm.exec) {pc : Nat} {Ls : Array Slot} {z : Int32} {rest : List Value} (hret : meth.sig.returnType = some .int) (hd : decode c.code pc = .ok (.ireturn, 1)) {fs : List Frame}
    (hl : ∀ (f : JFrame) (acts : List Action), f.method = m → f.locked = none → f.entered = [] → (doReturn e (T.setTop f) acts (some (.int z))).1 = T.setFrames fs) : Steps p.tables e below (T.setTop (mkF m pc Ls (.int z :: rest))) (T.setFrames fs) := by
  have hm' : T.vm.method? m = some meth := X.method'
  have hn : narrow .int (.int z) = .int z := rfl
  show Steps p.tables e below (T.setTop { method := m, pc := pc, locals := Ls, stack := _ :: rest, locked := none }) _
  jvm_step X.here [X.here.top, hx, hd, hm', hret, hn]
  first | (intro acts; rw [hl _ acts rfl rfl rfl]) | rw [hl _ _ rfl rfl rfl]
  exact Steps.refl _
end New
end Jvm.RoadKit
namespace Jvm.Pilot.@@N@@
open Jvm Jvm.ClassFile Sem Op Lib Jvm.Free Jvm.Stand Jvm.LawKit Jvm.RoadKit Bundle Jvm.Pilot.@@N@@.Jvm.D
theorem pd_0 : parseMethodDescriptor "([B[J)V" = some ⟨[(.array .byte), (.array .long)], none⟩ := by decide +kernel
theorem pd_1 : parseMethodDescriptor "(B)J" = some ⟨[.byte], some .long⟩ := by decide +kernel
theorem d1_0 : decode prog_83_method_3_code 0 = .ok (.aload_n 0, 1) := by decide +kernel
theorem d1_1 : decode prog_83_method_3_code 1 = .ok (.astore_n 2, 1) := by decide +kernel
theorem d1_2 : decode prog_83_method_3_code 2 = .ok (.aload_n 2, 1) := by decide +kernel
theorem d1_3 : decode prog_83_method_3_code 3 = .ok (.arraylength, 1) := by decide +kernel
theorem d1_4 : decode prog_83_method_3_code 4 = .ok (.istore_n 3, 1) := by decide +kernel
theorem d1_5 : decode prog_83_method_3_code 5 = .ok (.iconst 0, 1) := by decide +kernel
theorem d1_6 : decode prog_83_method_3_code 6 = .ok (.istore 4, 2) := by decide +kernel
theorem d1_8 : decode prog_83_method_3_code 8 = .ok (.iload 4, 2) := by decide +kernel
theorem d1_10 : decode prog_83_method_3_code 10 = .ok (.iload_n 3, 1) := by decide +kernel
theorem d1_11 : decode prog_83_method_3_code 11 = .ok (.if_icmp .ge 34, 3) := by decide +kernel
theorem d1_14 : decode prog_83_method_3_code 14 = .ok (.aload_n 2, 1) := by decide +kernel
theorem d1_15 : decode prog_83_method_3_code 15 = .ok (.iload 4, 2) := by decide +kernel
theorem d1_17 : decode prog_83_method_3_code 17 = .ok (.baload, 1) := by decide +kernel
theorem d1_18 : decode prog_83_method_3_code 18 = .ok (.istore 5, 2) := by decide +kernel
theorem d1_20 : decode prog_83_method_3_code 20 = .ok (.iload 5, 2) := by decide +kernel
theorem d1_22 : decode prog_83_method_3_code 22 = .ok (.ifCond .lt 17, 3) := by decide +kernel
theorem d1_25 : decode prog_83_method_3_code 25 = .ok (.aload_n 1, 1) := by decide +kernel
theorem d1_26 : decode prog_83_method_3_code 26 = .ok (.iload 5, 2) := by decide +kernel
theorem d1_28 : decode prog_83_method_3_code 28 = .ok (.bipush 6, 2) := by decide +kernel
theorem d1_30 : decode prog_83_method_3_code 30 = .ok (.iushr, 1) := by decide +kernel
theorem d1_31 : decode prog_83_method_3_code 31 = .ok (.dup2, 1) := by decide +kernel
theorem d1_32 : decode prog_83_method_3_code 32 = .ok (.laload, 1) := by decide +kernel
theorem d1_33 : decode prog_83_method_3_code 33 = .ok (.lconst 1, 1) := by decide +kernel
theorem d1_34 : decode prog_83_method_3_code 34 = .ok (.iload 5, 2) := by decide +kernel
theorem d1_36 : decode prog_83_method_3_code 36 = .ok (.lshl, 1) := by decide +kernel
theorem d1_37 : decode prog_83_method_3_code 37 = .ok (.lor, 1) := by decide +kernel
theorem d1_38 : decode prog_83_method_3_code 38 = .ok (.lastore, 1) := by decide +kernel
theorem d1_39 : decode prog_83_method_3_code 39 = .ok (.iinc 4 1, 3) := by decide +kernel
theorem d1_42 : decode prog_83_method_3_code 42 = .ok (.goto (-34), 3) := by decide +kernel
theorem d1_45 : decode prog_83_method_3_code 45 = .ok (.return_, 1) := by decide +kernel
theorem d2_0 : decode method_3_code 0 = .ok (.iload_n 0, 1) := by decide +kernel
theorem d2_1 : decode method_3_code 1 = .ok (.istore_n 1, 1) := by decide +kernel
theorem d2_2 : decode method_3_code 2 = .ok (.iload_n 1, 1) := by decide +kernel
theorem d2_3 : decode method_3_code 3 = .ok (.ifCond .lt 13, 3) := by decide +kernel
theorem d2_6 : decode method_3_code 6 = .ok (.iload_n 1, 1) := by decide +kernel
theorem d2_7 : decode method_3_code 7 = .ok (.bipush 64, 2) := by decide +kernel
theorem d2_9 : decode method_3_code 9 = .ok (.if_icmp .ge 7, 3) := by decide +kernel
theorem d2_12 : decode method_3_code 12 = .ok (.lconst 1, 1) := by decide +kernel
theorem d2_13 : decode method_3_code 13 = .ok (.iload_n 1, 1) := by decide +kernel
theorem d2_14 : decode method_3_code 14 = .ok (.lshl, 1) := by decide +kernel
theorem d2_15 : decode method_3_code 15 = .ok (.lreturn, 1) := by decide +kernel
theorem d2_16 : decode method_3_code 16 = .ok (.lconst 0, 1) := by decide +kernel
theorem d2_17 : decode method_3_code 17 = .ok (.lreturn, 1) := by decide +kernel
theorem d3_0 : decode method_4_code 0 = .ok (.iload_n 0, 1) := by decide +kernel
theorem d3_1 : decode method_4_code 1 = .ok (.istore_n 1, 1) := by decide +kernel
theorem d3_2 : decode method_4_code 2 = .ok (.iload_n 1, 1) := by decide +kernel
theorem d3_3 : decode method_4_code 3 = .ok (.bipush 64, 2) := by decide +kernel
theorem d3_5 : decode method_4_code 5 = .ok (.if_icmp .lt 10, 3) := by decide +kernel
theorem d3_8 : decode method_4_code 8 = .ok (.lconst 1, 1) := by decide +kernel
theorem d3_9 : decode method_4_code 9 = .ok (.iload_n 1, 1) := by decide +kernel
theorem d3_10 : decode method_4_code 10 = .ok (.bipush 64, 2) := by decide +kernel
theorem d3_12 : decode method_4_code 12 = .ok (.isub, 1) := by decide +kernel
theorem d3_13 : decode method_4_code 13 = .ok (.lshl, 1) := by decide +kernel
theorem d3_14 : decode method_4_code 14 = .ok (.lreturn, 1) := by decide +kernel
theorem d3_15 : decode method_4_code 15 = .ok (.lconst 0, 1) := by decide +kernel
theorem d3_16 : decode method_4_code 16 = .ok (.lreturn, 1) := by decide +kernel
def Iw (Z : State) (h : Heap) (b : Addr) (ty : FieldType) (vs : List Value) : Prop := ∃ c : Cell, Arr Z h b c ty ∧ c.slots.toList = vs
section iw
variable {Z : State} {h h' : Heap} {a b : Addr} {ty : FieldType} {vs : List Value} {sl j : Nat} {v : Value}
theorem Iw.ext (A : Iw Z h b ty vs) (E : Ext h h') : Iw Z h' b ty vs := by obtain ⟨c, A, l⟩ := A; exact ⟨c, A.ext E, l⟩
theorem Iw.other (A : Iw Z h b ty vs) (W : Wr h h' a sl v) (ne : b ≠ a) : Iw Z h' b ty vs := by obtain ⟨c, A, l⟩ := A; exact ⟨c, A.other W ne, l⟩
theorem Iw.lt (A : Iw Z h b ty vs) : b < h.size := by obtain ⟨c, A, l⟩ := A; exact A.lt
theorem Iw.setI {xs : List Int32} {x : Int32} (A : Iw Z h b ty (xs.map Value.int)) (W : Wr h h' b j (.int x)) : Iw Z h' b ty ((xs.set j x).map Value.int) := by
  obtain ⟨c, A, l⟩ := A; exact ⟨_, A.same W, list_set l j x⟩
theorem Iw.setJ {xs : List Int64} {x : Int64} (A : Iw Z h b ty (xs.map Value.long)) (W : Wr h h' b j (.long x)) : Iw Z h' b ty ((xs.set j x).map Value.long) := by
  obtain ⟨c, A, l⟩ := A
  refine ⟨_, A.same W, ?_⟩
  show (c.slots.setIfInBounds j (.long x)).toList = _
  rw [Array.toList_setIfInBounds, l, List.map_set]
theorem own_sizeJ {c : Cell} {xs : List Int64} (l : c.slots.toList = xs.map Value.long) : c.slots.size = xs.length := by
  rw [← Array.length_toList, l, List.length_map]
theorem own_atJ {c : Cell} {xs : List Int64} {j : Nat} (l : c.slots.toList = xs.map Value.long) (hj : j < xs.length) : c.slots[j]? = some (.long (xs.getD j 0)) := by
  rw [← Array.getElem?_toList, l]; simp [hj, List.getD_eq_getElem?_getD]
end iw
theorem own_os {z1 z2 z3 z4 z5 : Value} {s5 : Slot} {v : Int32} (h : One s5) : storeLocals #[.val z1, .val z2, .val z3, .val z4, .val z5, s5] 5 (.int v) = some #[.val z1, .val z2, .val z3, .val z4, .val z5, .val (.int v)] := by
  rcases h with rfl | ⟨w, rfl, hw⟩
  · rfl
  · cases w <;> first | rfl | (simp [Value.category] at hw)
def ixA (b : Int32) : Int32 := ((b.toUInt32 >>> ((6 : Int32) &&& 31).toUInt32).toInt32)
def bitA (b : Int32) : Int64 := ((1 : Int64) <<< (b &&& 0x3f).toInt64)
def mk1 (ys : List Int64) (b : Int32) : List Int64 := if b < 0 then ys else ys.set (ixA b).toNatClampNeg (ys.getD (ixA b).toNatClampNeg 0 ||| bitA b)
theorem mk1_len (ys : List Int64) (b : Int32) : (mk1 ys b).length = ys.length := by unfold mk1; split <;> simp
def in2 (j : Int32) : Prop := ¬ j < 0 ∧ j.toNatClampNeg < 2
instance (j : Int32) : Decidable (in2 j) := inferInstanceAs (Decidable (_ ∧ _))
theorem own_ofNat {i n : Nat} (h : i < n) (hn : n < 1000) : Int32.ofNat i < Int32.ofNat n := by
  rw [Int32.lt_iff_toInt_lt, Int32.toInt_ofNat_small (by omega), Int32.toInt_ofNat_small (by omega)]; omega
theorem own_clamp {i : Nat} (hn : i < 1000) : ¬ Int32.ofNat i < 0 ∧ (Int32.ofNat i).toNatClampNeg = i := by
  have e : (Int32.ofNat i).toInt = i := Int32.toInt_ofNat_small (by omega)
  constructor
  · rw [Int32.lt_iff_toInt_lt, e, show (0 : Int32).toInt = 0 from rfl]; omega
  · show (Int32.ofNat i).toInt.toNat = i; exact congrArg Int.toNat e
def Qm (Z : State) (a1 a2 : Addr) (xs : List Int32) (ys : List Int64) (h0 : Heap) (n0 : Nat) (v : Option Value) (h : Heap) (L : List Loc) : Prop := v = none ∧ Fr n0 L ∧ h0.size ≤ h.size ∧ Iw Z h a1 .byte (xs.map Value.int) ∧ Iw Z h a2 .long ((xs.foldl mk1 ys).map Value.long)
theorem pn_1 : plainName "com/example/sluice/sluice/engine/OrderedUsers$Gathered" = true := by first | (simp [plainName, overriddenIn]; done) | decide +kernel
theorem ef_1 (m : MethodId) (a1 : Addr) (a2 : Addr) : entryFrame m #[(.ref a1), (.ref a2)] 6 = mkF m 0 #[.val (.ref a1), .val (.ref a2), .unset, .unset, .unset, .unset] [] := by first | (simp [entryFrame, mkF, argsToLocals, Value.category]; done) | rfl
set_option maxRecDepth 65536 in
set_option maxHeartbeats 40000000 in
theorem rmm (l : Launch) (Z : State) (a0 : Array Value) (hw : ∀ d ∈ tables_1, d.before a0 Z = true) (ws : List Jvm.Cond) (a1 : Addr) (a2 : Addr) (xs : List Int32) (ys : List Int64) (h0 : Heap) (n0 : Nat) (Z0 : n0 ≤ h0.size) (Ix : Iw Z h0 a1 .byte (xs.map Value.int)) (Iy : Iw Z h0 a2 .long (ys.map Value.long)) (ne : a1 ≠ a2) (hy : ys.length = 2) (hl : xs.length < 1000) (hb2 : ∀ b ∈ xs, ¬ b < 0 → in2 (ixA b)) (g2 : n0 ≤ a2) :
    MetFree l (⟨"com/example/sluice/sluice/engine/OrderedUsers$Gathered", "mark", "([B[J)V"⟩ : MethodName) (head1 (Jvm.Cond.code (⟨"com/example/sluice/sluice/engine/OrderedUsers$Gathered", "mark", "([B[J)V"⟩ : MethodName) prog_83_method_3_code 6 none :: ws) ({ frames := 0, cells := 0, slots := 0, locals := 0 } : Room)) (fun a U => a = #[(.ref a1), (.ref a2)] ∧ Z.Warmed39 U.vm ∧ U.heap = h0) (fun _ _ _ _ _ => True) (fun _ U o U' => ∃ v L, o = .returned v ∧ Qm Z a1 a2 xs ys h0 n0 v U'.heap L ∧ FrameEnd U o U' L ({ frames := 0, cells := 0, slots := 0, locals := 0 } : Room).cells ({ frames := 0, cells := 0, slots := 0, locals := 0 } : Room).slots) := by
  refine MetFree.of_bodySF (plainFor_of_name pn_1) hisR ?_
  intro p e s m args below meth c s₁ Bd hml0 hP hK
  obtain ⟨rfl, hZ, hh⟩ := hP
  have hx := Bd.exec
  have hby := Bd.bytes
  have hml : c.maxLocals = 6 := hml0
  have hown : s.vm.findClass "com/example/sluice/sluice/engine/OrderedUsers$Gathered" = some m.cls := findClass_of_methodNamed Bd.named
  have hnm := (name_of_methodNamed Bd.named Bd.method).1
  have X0 : Stand p l e ({ frames := 0, cells := 0, slots := 0, locals := 0 } : Room) s m #[(.ref a1), (.ref a2)] below meth c s₁ [] 0 0 := Stand.of_body Bd
  have e0 : s₁.heap = h0 := by rw [← hh, Bd.state]; rfl
  have N0 := Fr.nil n0
  have pre0 : Goes p e below s₁ (entryFrame m #[(.ref a1), (.ref a2)] 6) s₁ (mkF m 0 #[.val (.ref a1), .val (.ref a2), .unset, .unset, .unset, .unset] []) := fun t k => castTop (ef_1 m a1 a2) k
  obtain ⟨c1, A1, l1⟩ := Ix
  have pre1 : Goes p e below s₁ (entryFrame m #[(.ref a1), (.ref a2)] 6) s₁ (mkF m 8 #[.val (.ref a1), .val (.ref a2), .val (.ref a1), .val (.int (Int32.ofNat xs.length)), .val (.int (0 : Int32)), .unset] []) := fun t k => pre0 t (by
      refine XS.aloadN X0.here hx rfl (hb hby d1_0) rfl rfl ?_
      show Steps p.tables e below (s₁.setTop (mkF m 1 #[.val (.ref a1), .val (.ref a2), .unset, .unset, .unset, .unset] [(.ref a1)])) _
      refine XS.astoreN X0.here hx rfl (hb hby d1_1) rfl rfl (l' := #[.val (.ref a1), .val (.ref a2), .val (.ref a1), .unset, .unset, .unset]) rfl ?_
      show Steps p.tables e below (s₁.setTop (mkF m 2 #[.val (.ref a1), .val (.ref a2), .val (.ref a1), .unset, .unset, .unset] [])) _
      refine XS.aloadN X0.here hx rfl (hb hby d1_2) rfl rfl ?_
      show Steps p.tables e below (s₁.setTop (mkF m 3 #[.val (.ref a1), .val (.ref a2), .val (.ref a1), .unset, .unset, .unset] [(.ref a1)])) _
      refine X0.arraylength hx (by rw [e0]; exact A1.1) (State.isArrayOf_alike hZ.alike A1.2.1) (g := (mkF m 3 #[.val (.ref a1), .val (.ref a2), .val (.ref a1), .unset, .unset, .unset] [(.ref a1)])) rfl rfl (hb hby d1_3) _ ?_
      rw [(show c1.slots.size.toInt32 = (Int32.ofNat xs.length) by rw [size_of_list l1])]
      show Steps p.tables e below (s₁.setTop (mkF m 4 #[.val (.ref a1), .val (.ref a2), .val (.ref a1), .unset, .unset, .unset] [(.int (Int32.ofNat xs.length))])) _
      refine XS.istoreN X0.here hx rfl (hb hby d1_4) rfl (l' := #[.val (.ref a1), .val (.ref a2), .val (.ref a1), .val (.int (Int32.ofNat xs.length)), .unset, .unset]) rfl ?_
      show Steps p.tables e below (s₁.setTop (mkF m 5 #[.val (.ref a1), .val (.ref a2), .val (.ref a1), .val (.int (Int32.ofNat xs.length)), .unset, .unset] [])) _
      refine XS.iconst X0.here hx rfl (hb hby d1_5) ?_
      show Steps p.tables e below (s₁.setTop (mkF m 6 #[.val (.ref a1), .val (.ref a2), .val (.ref a1), .val (.int (Int32.ofNat xs.length)), .unset, .unset] [(.int (0 : Int32))])) _
      refine XS.istore X0.here hx rfl (hb hby d1_6) rfl (l' := #[.val (.ref a1), .val (.ref a2), .val (.ref a1), .val (.int (Int32.ofNat xs.length)), .val (.int (0 : Int32)), .unset]) rfl ?_
      show Steps p.tables e below (s₁.setTop (mkF m 8 #[.val (.ref a1), .val (.ref a2), .val (.ref a1), .val (.int (Int32.ofNat xs.length)), .val (.int (0 : Int32)), .unset] [])) _
      exact k)
  have loop : ∀ (n i : Nat) (T : State) (h : Heap) (L' : List Loc) (s5 : Slot) (ys' : List Int64), i + n = xs.length → One s5 → Stand p l e ({ frames := 0, cells := 0, slots := 0, locals := 0 } : Room) s m #[(.ref a1), (.ref a2)] below meth c T L' 0 0 → T.heap = h → Fr n0 L' → Iw Z h a1 .byte (xs.map Value.int) → Iw Z h a2 .long (ys'.map Value.long) → ys'.length = 2 → h0.size ≤ h.size → ∃ (T' : State) (h' : Heap) (L'' : List Loc) (s5' : Slot), Stand p l e ({ frames := 0, cells := 0, slots := 0, locals := 0 } : Room) s m #[(.ref a1), (.ref a2)] below meth c T' L'' 0 0 ∧ T'.heap = h' ∧ Fr n0 L'' ∧ h0.size ≤ h'.size ∧ Iw Z h' a1 .byte (xs.map Value.int) ∧ Iw Z h' a2 .long (((xs.drop i).foldl mk1 ys').map Value.long) ∧ Goes p e below T (mkF m 8 #[.val (.ref a1), .val (.ref a2), .val (.ref a1), .val (.int (Int32.ofNat xs.length)), .val (.int (Int32.ofNat i)), s5] []) T' (mkF m 45 #[.val (.ref a1), .val (.ref a2), .val (.ref a1), .val (.int (Int32.ofNat xs.length)), .val (.int (Int32.ofNat xs.length)), s5'] []) := by
    intro n
    induction n with
    | zero =>
      intro i T h L' s5 ys' hi hs5 X eT N Ix Iy hy' hz
      obtain rfl : i = xs.length := by omega
      have pr0 : Goes p e below T (mkF m 8 #[.val (.ref a1), .val (.ref a2), .val (.ref a1), .val (.int (Int32.ofNat xs.length)), .val (.int (Int32.ofNat xs.length)), s5] []) T (mkF m 8 #[.val (.ref a1), .val (.ref a2), .val (.ref a1), .val (.int (Int32.ofNat xs.length)), .val (.int (Int32.ofNat xs.length)), s5] []) := fun _ k => k
      have pre2 : Goes p e below T (mkF m 8 #[.val (.ref a1), .val (.ref a2), .val (.ref a1), .val (.int (Int32.ofNat xs.length)), .val (.int (Int32.ofNat xs.length)), s5] []) T (mkF m 45 #[.val (.ref a1), .val (.ref a2), .val (.ref a1), .val (.int (Int32.ofNat xs.length)), .val (.int (Int32.ofNat xs.length)), s5] []) := fun t k => pr0 t (by
          refine XS.iload X.here hx rfl (hb hby d1_8) rfl ?_
          show Steps p.tables e below (T.setTop (mkF m 10 #[.val (.ref a1), .val (.ref a2), .val (.ref a1), .val (.int (Int32.ofNat xs.length)), .val (.int (Int32.ofNat xs.length)), s5] [(.int (Int32.ofNat xs.length))])) _
          refine XS.iloadN X.here hx rfl (hb hby d1_10) rfl ?_
          show Steps p.tables e below (T.setTop (mkF m 11 #[.val (.ref a1), .val (.ref a2), .val (.ref a1), .val (.int (Int32.ofNat xs.length)), .val (.int (Int32.ofNat xs.length)), s5] [(.int (Int32.ofNat xs.length)), (.int (Int32.ofNat xs.length))])) _
          refine XS.icmpYes X.here hx rfl (pc0 := 11) (pc' := 45) rfl (hb hby d1_11) rfl (flt (show ¬ ((Int32.ofNat xs.length) < (Int32.ofNat xs.length)) from (Int32.lt_irrefl))).2.1 (by decide) (by decide) ?_
          show Steps p.tables e below (T.setTop (mkF m 45 #[.val (.ref a1), .val (.ref a2), .val (.ref a1), .val (.int (Int32.ofNat xs.length)), .val (.int (Int32.ofNat xs.length)), s5] [])) _
          exact k)
      exact ⟨T, h, L', s5, X, eT, N, hz, Ix, by rw [List.drop_length]; exact Iy, pre2⟩
    | succ n ih =>
      intro i T h L' s5 ys' hi hs5 X eT N Ix Iy hy' hz
      have hil : i < xs.length := by omega
      have pr0 : Goes p e below T (mkF m 8 #[.val (.ref a1), .val (.ref a2), .val (.ref a1), .val (.int (Int32.ofNat xs.length)), .val (.int (Int32.ofNat i)), s5] []) T (mkF m 8 #[.val (.ref a1), .val (.ref a2), .val (.ref a1), .val (.int (Int32.ofNat xs.length)), .val (.int (Int32.ofNat i)), s5] []) := fun _ k => k
      obtain ⟨c1, A1, l1⟩ := Ix
      obtain ⟨c2, A2, l2⟩ := Iy
      obtain ⟨b, eb⟩ : ∃ b, b = xs.getD i 0 := ⟨_, rfl⟩
      have hdrop : xs.drop i = b :: xs.drop (i + 1) := by rw [eb, List.getD_eq_getElem?_getD, List.getElem?_eq_getElem hil]; exact List.drop_eq_getElem_cons hil
      have hmem : b ∈ xs := List.mem_of_mem_drop (i := i) (by rw [hdrop]; exact List.mem_cons_self)
      have hcl := own_clamp (i := i) (by omega)
      have hin : ¬ (Int32.ofNat i < 0 ∨ c1.slots.size ≤ (Int32.ofNat i).toNatClampNeg) := by rw [size_of_list l1, hcl.2]; exact fun q => q.elim hcl.1 (Nat.not_le.mpr hil)
      have hat : c1.slots[(Int32.ofNat i).toNatClampNeg]? = some (.int b) := by rw [hcl.2, eb]; exact slot_of_list l1 hil
      have pre3 : Goes p e below T (mkF m 8 #[.val (.ref a1), .val (.ref a2), .val (.ref a1), .val (.int (Int32.ofNat xs.length)), .val (.int (Int32.ofNat i)), s5] []) T (mkF m 22 #[.val (.ref a1), .val (.ref a2), .val (.ref a1), .val (.int (Int32.ofNat xs.length)), .val (.int (Int32.ofNat i)), .val (.int b)] [(.int b)]) := fun t k => pr0 t (by
          refine XS.iload X.here hx rfl (hb hby d1_8) rfl ?_
          show Steps p.tables e below (T.setTop (mkF m 10 #[.val (.ref a1), .val (.ref a2), .val (.ref a1), .val (.int (Int32.ofNat xs.length)), .val (.int (Int32.ofNat i)), s5] [(.int (Int32.ofNat i))])) _
          refine XS.iloadN X.here hx rfl (hb hby d1_10) rfl ?_
          show Steps p.tables e below (T.setTop (mkF m 11 #[.val (.ref a1), .val (.ref a2), .val (.ref a1), .val (.int (Int32.ofNat xs.length)), .val (.int (Int32.ofNat i)), s5] [(.int (Int32.ofNat xs.length)), (.int (Int32.ofNat i))])) _
          refine XS.icmpNo X.here hx rfl (hb hby d1_11) rfl (tlt (show (Int32.ofNat i) < (Int32.ofNat xs.length) from (own_ofNat hil hl))).2.1 ?_
          show Steps p.tables e below (T.setTop (mkF m 14 #[.val (.ref a1), .val (.ref a2), .val (.ref a1), .val (.int (Int32.ofNat xs.length)), .val (.int (Int32.ofNat i)), s5] [])) _
          refine XS.aloadN X.here hx rfl (hb hby d1_14) rfl rfl ?_
          show Steps p.tables e below (T.setTop (mkF m 15 #[.val (.ref a1), .val (.ref a2), .val (.ref a1), .val (.int (Int32.ofNat xs.length)), .val (.int (Int32.ofNat i)), s5] [(.ref a1)])) _
          refine XS.iload X.here hx rfl (hb hby d1_15) rfl ?_
          show Steps p.tables e below (T.setTop (mkF m 17 #[.val (.ref a1), .val (.ref a2), .val (.ref a1), .val (.int (Int32.ofNat xs.length)), .val (.int (Int32.ofNat i)), s5] [(.int (Int32.ofNat i)), (.ref a1)])) _
          refine X.baloadBytes hx (j := (Int32.ofNat i)) (v := (.int b)) (by rw [eT]; exact A1.1) (State.isArrayOf_alike hZ.alike A1.2.1) A1.2.2 hin hat (g := (mkF m 17 #[.val (.ref a1), .val (.ref a2), .val (.ref a1), .val (.int (Int32.ofNat xs.length)), .val (.int (Int32.ofNat i)), s5] [(.int (Int32.ofNat i)), (.ref a1)])) rfl rfl (hb hby d1_17) _ ?_
          show Steps p.tables e below (T.setTop (mkF m 18 #[.val (.ref a1), .val (.ref a2), .val (.ref a1), .val (.int (Int32.ofNat xs.length)), .val (.int (Int32.ofNat i)), s5] [(.int b)])) _
          refine XS.istore X.here hx rfl (hb hby d1_18) rfl (l' := #[.val (.ref a1), .val (.ref a2), .val (.ref a1), .val (.int (Int32.ofNat xs.length)), .val (.int (Int32.ofNat i)), .val (.int b)]) (own_os hs5) ?_
          show Steps p.tables e below (T.setTop (mkF m 20 #[.val (.ref a1), .val (.ref a2), .val (.ref a1), .val (.int (Int32.ofNat xs.length)), .val (.int (Int32.ofNat i)), .val (.int b)] [])) _
          refine XS.iload X.here hx rfl (hb hby d1_20) rfl ?_
          show Steps p.tables e below (T.setTop (mkF m 22 #[.val (.ref a1), .val (.ref a2), .val (.ref a1), .val (.int (Int32.ofNat xs.length)), .val (.int (Int32.ofNat i)), .val (.int b)] [(.int b)])) _
          exact k)
      by_cases hneg : b < (0 : Int32)
      · skip
        have pre4 : Goes p e below T (mkF m 8 #[.val (.ref a1), .val (.ref a2), .val (.ref a1), .val (.int (Int32.ofNat xs.length)), .val (.int (Int32.ofNat i)), s5] []) T (mkF m 8 #[.val (.ref a1), .val (.ref a2), .val (.ref a1), .val (.int (Int32.ofNat xs.length)), .val (.int ((Int32.ofNat i) + (1 : Int32))), .val (.int b)] []) := fun t k => pre3 t (by
            refine XS.ifYes X.here hx rfl (pc0 := 22) (pc' := 39) rfl (hb hby d1_22) rfl ((if0 _ _).trans (tlt hneg).1) (by decide) (by decide) ?_
            show Steps p.tables e below (T.setTop (mkF m 39 #[.val (.ref a1), .val (.ref a2), .val (.ref a1), .val (.int (Int32.ofNat xs.length)), .val (.int (Int32.ofNat i)), .val (.int b)] [])) _
            refine XS.iinc X.here hx rfl (hb hby d1_39) rfl (l' := #[.val (.ref a1), .val (.ref a2), .val (.ref a1), .val (.int (Int32.ofNat xs.length)), .val (.int ((Int32.ofNat i) + (1 : Int32))), .val (.int b)]) rfl ?_
            show Steps p.tables e below (T.setTop (mkF m 42 #[.val (.ref a1), .val (.ref a2), .val (.ref a1), .val (.int (Int32.ofNat xs.length)), .val (.int ((Int32.ofNat i) + (1 : Int32))), .val (.int b)] [])) _
            refine XS.goto X.here hx rfl (pc0 := 42) (pc' := 8) rfl (hb hby d1_42) (by decide) (by decide) ?_
            show Steps p.tables e below (T.setTop (mkF m 8 #[.val (.ref a1), .val (.ref a2), .val (.ref a1), .val (.int (Int32.ofNat xs.length)), .val (.int ((Int32.ofNat i) + (1 : Int32))), .val (.int b)] [])) _
            exact k)
        rw [show (Int32.ofNat i) + (1 : Int32) = Int32.ofNat (i + 1) from (inc_ofNat i).symm] at pre4
        obtain ⟨T', h', L'', s5', X', e', N', z', Ix', Iy', g'⟩ := ih (i + 1) T h L' (.val (.int b)) ys' (by omega) (One.val rfl) X eT N ⟨c1, A1, l1⟩ ⟨c2, A2, l2⟩ hy' hz
        refine ⟨T', h', L'', s5', X', e', N', z', Ix', ?_, fun t k => pre4 t (g' t k)⟩
        rw [hdrop, List.foldl_cons, show mk1 ys' b = ys' from if_pos hneg]
        exact Iy'
      · skip
        have hi2 := hb2 b hmem hneg
        have hin2 : ¬ (ixA b < 0 ∨ c2.slots.size ≤ (ixA b).toNatClampNeg) := by rw [own_sizeJ l2, hy']; exact fun q => q.elim hi2.1 (Nat.not_le.mpr hi2.2)
        have hat2 : c2.slots[(ixA b).toNatClampNeg]? = some (.long (ys'.getD (ixA b).toNatClampNeg 0)) := own_atJ l2 (by rw [hy']; exact hi2.2)
        have pre5 : Goes p e below T (mkF m 8 #[.val (.ref a1), .val (.ref a2), .val (.ref a1), .val (.int (Int32.ofNat xs.length)), .val (.int (Int32.ofNat i)), s5] []) T (mkF m 38 #[.val (.ref a1), .val (.ref a2), .val (.ref a1), .val (.int (Int32.ofNat xs.length)), .val (.int (Int32.ofNat i)), .val (.int b)] [(.long ((ys'.getD (ixA b).toNatClampNeg 0) ||| (bitA b))), (.int (ixA b)), (.ref a2)]) := fun t k => pre3 t (by
            refine XS.ifNo X.here hx rfl (hb hby d1_22) rfl ((if0 _ _).trans (flt hneg).1) ?_
            show Steps p.tables e below (T.setTop (mkF m 25 #[.val (.ref a1), .val (.ref a2), .val (.ref a1), .val (.int (Int32.ofNat xs.length)), .val (.int (Int32.ofNat i)), .val (.int b)] [])) _
            refine XS.aloadN X.here hx rfl (hb hby d1_25) rfl rfl ?_
            show Steps p.tables e below (T.setTop (mkF m 26 #[.val (.ref a1), .val (.ref a2), .val (.ref a1), .val (.int (Int32.ofNat xs.length)), .val (.int (Int32.ofNat i)), .val (.int b)] [(.ref a2)])) _
            refine XS.iload X.here hx rfl (hb hby d1_26) rfl ?_
            show Steps p.tables e below (T.setTop (mkF m 28 #[.val (.ref a1), .val (.ref a2), .val (.ref a1), .val (.int (Int32.ofNat xs.length)), .val (.int (Int32.ofNat i)), .val (.int b)] [(.int b), (.ref a2)])) _
            refine XS.bipush X.here hx rfl (hb hby d1_28) ?_
            show Steps p.tables e below (T.setTop (mkF m 30 #[.val (.ref a1), .val (.ref a2), .val (.ref a1), .val (.int (Int32.ofNat xs.length)), .val (.int (Int32.ofNat i)), .val (.int b)] [(.int (6 : Int32)), (.int b), (.ref a2)])) _
            refine XS.iushr X.here hx rfl (hb hby d1_30) rfl ?_
            show Steps p.tables e below (T.setTop (mkF m 31 #[.val (.ref a1), .val (.ref a2), .val (.ref a1), .val (.int (Int32.ofNat xs.length)), .val (.int (Int32.ofNat i)), .val (.int b)] [(.int ((b.toUInt32 >>> ((6 : Int32) &&& 31).toUInt32).toInt32)), (.ref a2)])) _
            show Steps p.tables e below (T.setTop (mkF m 31 #[.val (.ref a1), .val (.ref a2), .val (.ref a1), .val (.int (Int32.ofNat xs.length)), .val (.int (Int32.ofNat i)), .val (.int b)] [(.int (ixA b)), (.ref a2)])) _
            refine Jvm.Free.XT.dup2 X.here hx rfl (hb hby d1_31) rfl rfl rfl ?_
            show Steps p.tables e below (T.setTop (mkF m 32 #[.val (.ref a1), .val (.ref a2), .val (.ref a1), .val (.int (Int32.ofNat xs.length)), .val (.int (Int32.ofNat i)), .val (.int b)] [(.int (ixA b)), (.ref a2), (.int (ixA b)), (.ref a2)])) _
            refine X.laload hx (j := (ixA b)) (v := (.long (ys'.getD (ixA b).toNatClampNeg 0))) (by rw [eT]; exact A2.1) (State.isArrayOf_alike hZ.alike A2.2.1) A2.2.2 hin2 hat2 (g := (mkF m 32 #[.val (.ref a1), .val (.ref a2), .val (.ref a1), .val (.int (Int32.ofNat xs.length)), .val (.int (Int32.ofNat i)), .val (.int b)] [(.int (ixA b)), (.ref a2), (.int (ixA b)), (.ref a2)])) rfl rfl (hb hby d1_32) _ ?_
            show Steps p.tables e below (T.setTop (mkF m 33 #[.val (.ref a1), .val (.ref a2), .val (.ref a1), .val (.int (Int32.ofNat xs.length)), .val (.int (Int32.ofNat i)), .val (.int b)] [(.long (ys'.getD (ixA b).toNatClampNeg 0)), (.int (ixA b)), (.ref a2)])) _
            refine XS.lconst X.here hx rfl (hb hby d1_33) ?_
            show Steps p.tables e below (T.setTop (mkF m 34 #[.val (.ref a1), .val (.ref a2), .val (.ref a1), .val (.int (Int32.ofNat xs.length)), .val (.int (Int32.ofNat i)), .val (.int b)] [(.long (1 : Int64)), (.long (ys'.getD (ixA b).toNatClampNeg 0)), (.int (ixA b)), (.ref a2)])) _
            refine XS.iload X.here hx rfl (hb hby d1_34) rfl ?_
            show Steps p.tables e below (T.setTop (mkF m 36 #[.val (.ref a1), .val (.ref a2), .val (.ref a1), .val (.int (Int32.ofNat xs.length)), .val (.int (Int32.ofNat i)), .val (.int b)] [(.int b), (.long (1 : Int64)), (.long (ys'.getD (ixA b).toNatClampNeg 0)), (.int (ixA b)), (.ref a2)])) _
            refine XS.lshl X.here hx rfl (hb hby d1_36) rfl ?_
            show Steps p.tables e below (T.setTop (mkF m 37 #[.val (.ref a1), .val (.ref a2), .val (.ref a1), .val (.int (Int32.ofNat xs.length)), .val (.int (Int32.ofNat i)), .val (.int b)] [(.long ((1 : Int64) <<< (b &&& 0x3f).toInt64)), (.long (ys'.getD (ixA b).toNatClampNeg 0)), (.int (ixA b)), (.ref a2)])) _
            show Steps p.tables e below (T.setTop (mkF m 37 #[.val (.ref a1), .val (.ref a2), .val (.ref a1), .val (.int (Int32.ofNat xs.length)), .val (.int (Int32.ofNat i)), .val (.int b)] [(.long (bitA b)), (.long (ys'.getD (ixA b).toNatClampNeg 0)), (.int (ixA b)), (.ref a2)])) _
            refine XS.lor X.here hx rfl (hb hby d1_37) rfl ?_
            show Steps p.tables e below (T.setTop (mkF m 38 #[.val (.ref a1), .val (.ref a2), .val (.ref a1), .val (.int (Int32.ofNat xs.length)), .val (.int (Int32.ofNat i)), .val (.int b)] [(.long ((ys'.getD (ixA b).toNatClampNeg 0) ||| (bitA b))), (.int (ixA b)), (.ref a2)])) _
            exact k)
        obtain ⟨T6, h6, X6, e6, W6, st6⟩ := stJ X hx hZ eT A2 (j := (ixA b)) hin2 (g := (mkF m 38 #[.val (.ref a1), .val (.ref a2), .val (.ref a1), .val (.int (Int32.ofNat xs.length)), .val (.int (Int32.ofNat i)), .val (.int b)] [(.long ((ys'.getD (ixA b).toNatClampNeg 0) ||| (bitA b))), (.int (ixA b)), (.ref a2)])) rfl rfl (hb hby d1_38)
        have N6 := Fr.snoc X6 N g2
        have pre6 : Goes p e below T (mkF m 8 #[.val (.ref a1), .val (.ref a2), .val (.ref a1), .val (.int (Int32.ofNat xs.length)), .val (.int (Int32.ofNat i)), s5] []) T6 (mkF m 39 #[.val (.ref a1), .val (.ref a2), .val (.ref a1), .val (.int (Int32.ofNat xs.length)), .val (.int (Int32.ofNat i)), .val (.int b)] []) := fun t k => pre5 t (st6 _ k)
        have Iy2 := Iw.setJ ⟨c2, A2, l2⟩ W6
        have Ix2 : Iw Z h6 a1 .byte (xs.map Value.int) := Iw.other ⟨c1, A1, l1⟩ W6 ne
        have z2 : h0.size ≤ h6.size := W6.size ▸ hz
        have pre7 : Goes p e below T (mkF m 8 #[.val (.ref a1), .val (.ref a2), .val (.ref a1), .val (.int (Int32.ofNat xs.length)), .val (.int (Int32.ofNat i)), s5] []) T6 (mkF m 8 #[.val (.ref a1), .val (.ref a2), .val (.ref a1), .val (.int (Int32.ofNat xs.length)), .val (.int ((Int32.ofNat i) + (1 : Int32))), .val (.int b)] []) := fun t k => pre6 t (by
            refine XS.iinc X6.here hx rfl (hb hby d1_39) rfl (l' := #[.val (.ref a1), .val (.ref a2), .val (.ref a1), .val (.int (Int32.ofNat xs.length)), .val (.int ((Int32.ofNat i) + (1 : Int32))), .val (.int b)]) rfl ?_
            show Steps p.tables e below (T6.setTop (mkF m 42 #[.val (.ref a1), .val (.ref a2), .val (.ref a1), .val (.int (Int32.ofNat xs.length)), .val (.int ((Int32.ofNat i) + (1 : Int32))), .val (.int b)] [])) _
            refine XS.goto X6.here hx rfl (pc0 := 42) (pc' := 8) rfl (hb hby d1_42) (by decide) (by decide) ?_
            show Steps p.tables e below (T6.setTop (mkF m 8 #[.val (.ref a1), .val (.ref a2), .val (.ref a1), .val (.int (Int32.ofNat xs.length)), .val (.int ((Int32.ofNat i) + (1 : Int32))), .val (.int b)] [])) _
            exact k)
        rw [show (Int32.ofNat i) + (1 : Int32) = Int32.ofNat (i + 1) from (inc_ofNat i).symm] at pre7
        have emk : mk1 ys' b = ys'.set (ixA b).toNatClampNeg (ys'.getD (ixA b).toNatClampNeg 0 ||| bitA b) := if_neg hneg
        rw [← emk] at Iy2
        obtain ⟨T', h', L'', s5', X', e', N', z', Ix', Iy', g'⟩ := ih (i + 1) T6 h6 _ (.val (.int b)) (mk1 ys' b) (by omega) (One.val rfl) X6 e6 N6 Ix2 Iy2 ((mk1_len ys' b).trans hy') z2
        refine ⟨T', h', L'', s5', X', e', N', z', Ix', ?_, fun t k => pre7 t (g' t k)⟩
        rw [hdrop, List.foldl_cons]
        exact Iy'
  obtain ⟨T2, h2, L2, s5, X2, e2, N2, z2, Ix2, Iy2, g'⟩ := loop xs.length 0 s₁ h0 [] .unset ys (Nat.zero_add _) One.u X0 e0 N0 ⟨c1, A1, l1⟩ Iy hy (Nat.le_refl _)
  have preL : Goes p e below s₁ (entryFrame m #[(.ref a1), (.ref a2)] 6) T2 (mkF m 45 #[.val (.ref a1), .val (.ref a2), .val (.ref a1), .val (.int (Int32.ofNat xs.length)), .val (.int (Int32.ofNat xs.length)), s5] []) := fun t k => pre1 t (g' t k)
  obtain ⟨fs, hr, hrun, hended, hW, hsame⟩ := X2.leave (v := none) (fun _ => rfl)
  refine ⟨_, _, preL _ (X2.returnOut hx Bd.returns (hb hby d1_45) hr), hrun, hended, _, _, rfl, ?_, ⟨_, rfl⟩, hW, hsame.mono (by decide) (by decide)⟩
  show Qm Z a1 a2 xs ys h0 n0 _ T2.heap _
  rw [e2]
  exact ⟨rfl, N2, z2, Ix2, Iy2⟩
def lowA (b : Int32) : Int64 := if b < 0 then 0 else if b < 64 then bitA b else 0
def highA (b : Int32) : Int64 := if b < 64 then 0 else (1 : Int64) <<< ((b - (64 : Int32)) &&& 0x3f).toInt64
def Ql (Z : State) (p1 : Int32) (h0 : Heap) (n0 : Nat) (v : Option Value) (h : Heap) (L : List Loc) : Prop := v = some (.long (lowA p1)) ∧ Fr n0 L ∧ h = h0
theorem pn_2 : plainName "com/example/sluice/sluice/engine/GatheredMarkPinLaw" = true := by first | (simp [plainName, overriddenIn]; done) | decide +kernel
theorem ef_2 (m : MethodId) (p1 : Int32) : entryFrame m #[(.int p1)] 2 = mkF m 0 #[.val (.int p1), .unset] [] := by first | (simp [entryFrame, mkF, argsToLocals, Value.category]; done) | rfl
set_option maxRecDepth 65536 in
set_option maxHeartbeats 40000000 in
theorem rml (l : Launch) (Z : State) (a0 : Array Value) (hw : ∀ d ∈ tables_1, d.before a0 Z = true) (ws : List Jvm.Cond) (p1 : Int32)  (h0 : Heap) (n0 : Nat) (Z0 : n0 ≤ h0.size)  :
    MetFree l (⟨"com/example/sluice/sluice/engine/GatheredMarkPinLaw", "low", "(B)J"⟩ : MethodName) (head1 (Jvm.Cond.code (⟨"com/example/sluice/sluice/engine/GatheredMarkPinLaw", "low", "(B)J"⟩ : MethodName) method_3_code 2 (some .long) :: ws) ({ frames := 0, cells := 0, slots := 0, locals := 0 } : Room)) (fun a U => a = #[(.int p1)] ∧ Z.Warmed39 U.vm ∧ U.heap = h0) (fun _ _ _ _ _ => True) (fun _ U o U' => ∃ v L, o = .returned v ∧ Ql Z p1 h0 n0 v U'.heap L ∧ FrameEnd U o U' L ({ frames := 0, cells := 0, slots := 0, locals := 0 } : Room).cells ({ frames := 0, cells := 0, slots := 0, locals := 0 } : Room).slots) := by
  refine MetFree.of_bodySF (plainFor_of_name pn_2) hisR ?_
  intro p e s m args below meth c s₁ Bd hml0 hP hK
  obtain ⟨rfl, hZ, hh⟩ := hP
  have hx := Bd.exec
  have hby := Bd.bytes
  have hml : c.maxLocals = 2 := hml0
  have hown : s.vm.findClass "com/example/sluice/sluice/engine/GatheredMarkPinLaw" = some m.cls := findClass_of_methodNamed Bd.named
  have hnm := (name_of_methodNamed Bd.named Bd.method).1
  have X0 : Stand p l e ({ frames := 0, cells := 0, slots := 0, locals := 0 } : Room) s m #[(.int p1)] below meth c s₁ [] 0 0 := Stand.of_body Bd
  have e0 : s₁.heap = h0 := by rw [← hh, Bd.state]; rfl
  have N0 := Fr.nil n0
  have pre0 : Goes p e below s₁ (entryFrame m #[(.int p1)] 2) s₁ (mkF m 0 #[.val (.int p1), .unset] []) := fun t k => castTop (ef_2 m p1) k
  have pre8 : Goes p e below s₁ (entryFrame m #[(.int p1)] 2) s₁ (mkF m 3 #[.val (.int p1), .val (.int p1)] [(.int p1)]) := fun t k => pre0 t (by
      refine XS.iloadN X0.here hx rfl (hb hby d2_0) rfl ?_
      show Steps p.tables e below (s₁.setTop (mkF m 1 #[.val (.int p1), .unset] [(.int p1)])) _
      refine XS.istoreN X0.here hx rfl (hb hby d2_1) rfl (l' := #[.val (.int p1), .val (.int p1)]) rfl ?_
      show Steps p.tables e below (s₁.setTop (mkF m 2 #[.val (.int p1), .val (.int p1)] [])) _
      refine XS.iloadN X0.here hx rfl (hb hby d2_2) rfl ?_
      show Steps p.tables e below (s₁.setTop (mkF m 3 #[.val (.int p1), .val (.int p1)] [(.int p1)])) _
      exact k)
  by_cases hc9 : p1 < (0 : Int32)
  · skip
    have pre10 : Goes p e below s₁ (entryFrame m #[(.int p1)] 2) s₁ (mkF m 17 #[.val (.int p1), .val (.int p1)] [(.long (0 : Int64))]) := fun t k => pre8 t (by
        refine XS.ifYes X0.here hx rfl (pc0 := 3) (pc' := 16) rfl (hb hby d2_3) rfl ((if0 _ _).trans (tlt hc9).1) (by decide) (by decide) ?_
        show Steps p.tables e below (s₁.setTop (mkF m 16 #[.val (.int p1), .val (.int p1)] [])) _
        refine XS.lconst X0.here hx rfl (hb hby d2_16) ?_
        show Steps p.tables e below (s₁.setTop (mkF m 17 #[.val (.int p1), .val (.int p1)] [(.long (0 : Int64))])) _
        exact k)
    obtain ⟨fs, hr, hrun, hended, hW, hsame⟩ := X0.leave (v := some (.long (0 : Int64))) (fun h => by rw [Bd.returns] at h; cases h)
    refine ⟨_, _, pre10 _ (lreturnOut X0 hx Bd.returns (hb hby d2_17) hr), hrun, hended, _, _, rfl, ?_, ⟨_, rfl⟩, hW, hsame.mono (by decide) (by decide)⟩
    show Ql Z p1 h0 n0 _ s₁.heap _
    rw [e0]
    exact ⟨by simp only [lowA, bitA, hc9, if_true, if_false], N0, rfl⟩
  · skip
    have pre11 : Goes p e below s₁ (entryFrame m #[(.int p1)] 2) s₁ (mkF m 9 #[.val (.int p1), .val (.int p1)] [(.int (64 : Int32)), (.int p1)]) := fun t k => pre8 t (by
        refine XS.ifNo X0.here hx rfl (hb hby d2_3) rfl ((if0 _ _).trans (flt hc9).1) ?_
        show Steps p.tables e below (s₁.setTop (mkF m 6 #[.val (.int p1), .val (.int p1)] [])) _
        refine XS.iloadN X0.here hx rfl (hb hby d2_6) rfl ?_
        show Steps p.tables e below (s₁.setTop (mkF m 7 #[.val (.int p1), .val (.int p1)] [(.int p1)])) _
        refine XS.bipush X0.here hx rfl (hb hby d2_7) ?_
        show Steps p.tables e below (s₁.setTop (mkF m 9 #[.val (.int p1), .val (.int p1)] [(.int (64 : Int32)), (.int p1)])) _
        exact k)
    by_cases hc12 : p1 < (64 : Int32)
    · skip
      have pre13 : Goes p e below s₁ (entryFrame m #[(.int p1)] 2) s₁ (mkF m 15 #[.val (.int p1), .val (.int p1)] [(.long ((1 : Int64) <<< (p1 &&& 0x3f).toInt64))]) := fun t k => pre11 t (by
          refine XS.icmpNo X0.here hx rfl (hb hby d2_9) rfl (tlt hc12).2.1 ?_
          show Steps p.tables e below (s₁.setTop (mkF m 12 #[.val (.int p1), .val (.int p1)] [])) _
          refine XS.lconst X0.here hx rfl (hb hby d2_12) ?_
          show Steps p.tables e below (s₁.setTop (mkF m 13 #[.val (.int p1), .val (.int p1)] [(.long (1 : Int64))])) _
          refine XS.iloadN X0.here hx rfl (hb hby d2_13) rfl ?_
          show Steps p.tables e below (s₁.setTop (mkF m 14 #[.val (.int p1), .val (.int p1)] [(.int p1), (.long (1 : Int64))])) _
          refine XS.lshl X0.here hx rfl (hb hby d2_14) rfl ?_
          show Steps p.tables e below (s₁.setTop (mkF m 15 #[.val (.int p1), .val (.int p1)] [(.long ((1 : Int64) <<< (p1 &&& 0x3f).toInt64))])) _
          exact k)
      obtain ⟨fs, hr, hrun, hended, hW, hsame⟩ := X0.leave (v := some (.long ((1 : Int64) <<< (p1 &&& 0x3f).toInt64))) (fun h => by rw [Bd.returns] at h; cases h)
      refine ⟨_, _, pre13 _ (lreturnOut X0 hx Bd.returns (hb hby d2_15) hr), hrun, hended, _, _, rfl, ?_, ⟨_, rfl⟩, hW, hsame.mono (by decide) (by decide)⟩
      show Ql Z p1 h0 n0 _ s₁.heap _
      rw [e0]
      exact ⟨by simp only [lowA, bitA, hc9, hc12, if_true, if_false], N0, rfl⟩
    · skip
      have pre14 : Goes p e below s₁ (entryFrame m #[(.int p1)] 2) s₁ (mkF m 17 #[.val (.int p1), .val (.int p1)] [(.long (0 : Int64))]) := fun t k => pre11 t (by
          refine XS.icmpYes X0.here hx rfl (pc0 := 9) (pc' := 16) rfl (hb hby d2_9) rfl (flt hc12).2.1 (by decide) (by decide) ?_
          show Steps p.tables e below (s₁.setTop (mkF m 16 #[.val (.int p1), .val (.int p1)] [])) _
          refine XS.lconst X0.here hx rfl (hb hby d2_16) ?_
          show Steps p.tables e below (s₁.setTop (mkF m 17 #[.val (.int p1), .val (.int p1)] [(.long (0 : Int64))])) _
          exact k)
      obtain ⟨fs, hr, hrun, hended, hW, hsame⟩ := X0.leave (v := some (.long (0 : Int64))) (fun h => by rw [Bd.returns] at h; cases h)
      refine ⟨_, _, pre14 _ (lreturnOut X0 hx Bd.returns (hb hby d2_17) hr), hrun, hended, _, _, rfl, ?_, ⟨_, rfl⟩, hW, hsame.mono (by decide) (by decide)⟩
      show Ql Z p1 h0 n0 _ s₁.heap _
      rw [e0]
      exact ⟨by simp only [lowA, bitA, hc9, hc12, if_true, if_false], N0, rfl⟩
def Qh (Z : State) (p1 : Int32) (h0 : Heap) (n0 : Nat) (v : Option Value) (h : Heap) (L : List Loc) : Prop := v = some (.long (highA p1)) ∧ Fr n0 L ∧ h = h0
theorem pn_3 : plainName "com/example/sluice/sluice/engine/GatheredMarkPinLaw" = true := by first | (simp [plainName, overriddenIn]; done) | decide +kernel
theorem ef_3 (m : MethodId) (p1 : Int32) : entryFrame m #[(.int p1)] 2 = mkF m 0 #[.val (.int p1), .unset] [] := by first | (simp [entryFrame, mkF, argsToLocals, Value.category]; done) | rfl
set_option maxRecDepth 65536 in
set_option maxHeartbeats 40000000 in
theorem rmh (l : Launch) (Z : State) (a0 : Array Value) (hw : ∀ d ∈ tables_1, d.before a0 Z = true) (ws : List Jvm.Cond) (p1 : Int32)  (h0 : Heap) (n0 : Nat) (Z0 : n0 ≤ h0.size)  :
    MetFree l (⟨"com/example/sluice/sluice/engine/GatheredMarkPinLaw", "high", "(B)J"⟩ : MethodName) (head1 (Jvm.Cond.code (⟨"com/example/sluice/sluice/engine/GatheredMarkPinLaw", "high", "(B)J"⟩ : MethodName) method_4_code 2 (some .long) :: ws) ({ frames := 0, cells := 0, slots := 0, locals := 0 } : Room)) (fun a U => a = #[(.int p1)] ∧ Z.Warmed39 U.vm ∧ U.heap = h0) (fun _ _ _ _ _ => True) (fun _ U o U' => ∃ v L, o = .returned v ∧ Qh Z p1 h0 n0 v U'.heap L ∧ FrameEnd U o U' L ({ frames := 0, cells := 0, slots := 0, locals := 0 } : Room).cells ({ frames := 0, cells := 0, slots := 0, locals := 0 } : Room).slots) := by
  refine MetFree.of_bodySF (plainFor_of_name pn_3) hisR ?_
  intro p e s m args below meth c s₁ Bd hml0 hP hK
  obtain ⟨rfl, hZ, hh⟩ := hP
  have hx := Bd.exec
  have hby := Bd.bytes
  have hml : c.maxLocals = 2 := hml0
  have hown : s.vm.findClass "com/example/sluice/sluice/engine/GatheredMarkPinLaw" = some m.cls := findClass_of_methodNamed Bd.named
  have hnm := (name_of_methodNamed Bd.named Bd.method).1
  have X0 : Stand p l e ({ frames := 0, cells := 0, slots := 0, locals := 0 } : Room) s m #[(.int p1)] below meth c s₁ [] 0 0 := Stand.of_body Bd
  have e0 : s₁.heap = h0 := by rw [← hh, Bd.state]; rfl
  have N0 := Fr.nil n0
  have pre0 : Goes p e below s₁ (entryFrame m #[(.int p1)] 2) s₁ (mkF m 0 #[.val (.int p1), .unset] []) := fun t k => castTop (ef_3 m p1) k
  have pre15 : Goes p e below s₁ (entryFrame m #[(.int p1)] 2) s₁ (mkF m 5 #[.val (.int p1), .val (.int p1)] [(.int (64 : Int32)), (.int p1)]) := fun t k => pre0 t (by
      refine XS.iloadN X0.here hx rfl (hb hby d3_0) rfl ?_
      show Steps p.tables e below (s₁.setTop (mkF m 1 #[.val (.int p1), .unset] [(.int p1)])) _
      refine XS.istoreN X0.here hx rfl (hb hby d3_1) rfl (l' := #[.val (.int p1), .val (.int p1)]) rfl ?_
      show Steps p.tables e below (s₁.setTop (mkF m 2 #[.val (.int p1), .val (.int p1)] [])) _
      refine XS.iloadN X0.here hx rfl (hb hby d3_2) rfl ?_
      show Steps p.tables e below (s₁.setTop (mkF m 3 #[.val (.int p1), .val (.int p1)] [(.int p1)])) _
      refine XS.bipush X0.here hx rfl (hb hby d3_3) ?_
      show Steps p.tables e below (s₁.setTop (mkF m 5 #[.val (.int p1), .val (.int p1)] [(.int (64 : Int32)), (.int p1)])) _
      exact k)
  by_cases hc16 : p1 < (64 : Int32)
  · skip
    have pre17 : Goes p e below s₁ (entryFrame m #[(.int p1)] 2) s₁ (mkF m 16 #[.val (.int p1), .val (.int p1)] [(.long (0 : Int64))]) := fun t k => pre15 t (by
        refine XS.icmpYes X0.here hx rfl (pc0 := 5) (pc' := 15) rfl (hb hby d3_5) rfl (tlt hc16).1 (by decide) (by decide) ?_
        show Steps p.tables e below (s₁.setTop (mkF m 15 #[.val (.int p1), .val (.int p1)] [])) _
        refine XS.lconst X0.here hx rfl (hb hby d3_15) ?_
        show Steps p.tables e below (s₁.setTop (mkF m 16 #[.val (.int p1), .val (.int p1)] [(.long (0 : Int64))])) _
        exact k)
    obtain ⟨fs, hr, hrun, hended, hW, hsame⟩ := X0.leave (v := some (.long (0 : Int64))) (fun h => by rw [Bd.returns] at h; cases h)
    refine ⟨_, _, pre17 _ (lreturnOut X0 hx Bd.returns (hb hby d3_16) hr), hrun, hended, _, _, rfl, ?_, ⟨_, rfl⟩, hW, hsame.mono (by decide) (by decide)⟩
    show Qh Z p1 h0 n0 _ s₁.heap _
    rw [e0]
    exact ⟨by simp only [highA, bitA, hc16, if_true, if_false], N0, rfl⟩
  · skip
    have pre18 : Goes p e below s₁ (entryFrame m #[(.int p1)] 2) s₁ (mkF m 14 #[.val (.int p1), .val (.int p1)] [(.long ((1 : Int64) <<< ((p1 - (64 : Int32)) &&& 0x3f).toInt64))]) := fun t k => pre15 t (by
        refine XS.icmpNo X0.here hx rfl (hb hby d3_5) rfl (flt hc16).1 ?_
        show Steps p.tables e below (s₁.setTop (mkF m 8 #[.val (.int p1), .val (.int p1)] [])) _
        refine XS.lconst X0.here hx rfl (hb hby d3_8) ?_
        show Steps p.tables e below (s₁.setTop (mkF m 9 #[.val (.int p1), .val (.int p1)] [(.long (1 : Int64))])) _
        refine XS.iloadN X0.here hx rfl (hb hby d3_9) rfl ?_
        show Steps p.tables e below (s₁.setTop (mkF m 10 #[.val (.int p1), .val (.int p1)] [(.int p1), (.long (1 : Int64))])) _
        refine XS.bipush X0.here hx rfl (hb hby d3_10) ?_
        show Steps p.tables e below (s₁.setTop (mkF m 12 #[.val (.int p1), .val (.int p1)] [(.int (64 : Int32)), (.int p1), (.long (1 : Int64))])) _
        refine XS.isub X0.here hx rfl (hb hby d3_12) rfl ?_
        show Steps p.tables e below (s₁.setTop (mkF m 13 #[.val (.int p1), .val (.int p1)] [(.int (p1 - (64 : Int32))), (.long (1 : Int64))])) _
        refine XS.lshl X0.here hx rfl (hb hby d3_13) rfl ?_
        show Steps p.tables e below (s₁.setTop (mkF m 14 #[.val (.int p1), .val (.int p1)] [(.long ((1 : Int64) <<< ((p1 - (64 : Int32)) &&& 0x3f).toInt64))])) _
        exact k)
    obtain ⟨fs, hr, hrun, hended, hW, hsame⟩ := X0.leave (v := some (.long ((1 : Int64) <<< ((p1 - (64 : Int32)) &&& 0x3f).toInt64))) (fun h => by rw [Bd.returns] at h; cases h)
    refine ⟨_, _, pre18 _ (lreturnOut X0 hx Bd.returns (hb hby d3_14) hr), hrun, hended, _, _, rfl, ?_, ⟨_, rfl⟩, hW, hsame.mono (by decide) (by decide)⟩
    show Qh Z p1 h0 n0 _ s₁.heap _
    rw [e0]
    exact ⟨by simp only [highA, bitA, hc16, if_true, if_false], N0, rfl⟩
theorem own_nat {c : Int32} {k : Nat} (h0 : ¬ c < 0) (h1 : c.toInt < k) : ∃ n, n < k ∧ c = Int32.ofNat n := by
  have hb := back32 h0
  refine ⟨c.toNatClampNeg, ?_, hb.1.symm⟩
  have h2 : ¬ c.toInt < 0 := fun h => h0 (Int32.lt_iff_toInt_lt.mpr h)
  have h3 : c.toNatClampNeg = c.toInt.toNat := rfl
  omega
theorem own_len (x : Int32) : ∃ k, k < 5 ∧ (x &&& (2147483647 : Int32)) % (5 : Int32) = Int32.ofNat k := by
  have h1 := c_mask x 2147483647 31 (by decide) (by decide)
  have h2 := (c_irem (x &&& 2147483647) 5 5 rfl).1 (by omega)
  have h3 : ¬ ((x &&& (2147483647 : Int32)) % (5 : Int32)) < 0 := by
    rw [Int32.lt_iff_toInt_lt, show (0 : Int32).toInt = 0 from rfl, h2]; omega
  exact own_nat h3 (by rw [h2]; omega)
def Byt (b : Int32) : Prop := b.toInt8.toInt32 = b ∧ -128 ≤ b.toInt ∧ b.toInt < 128
theorem own_byt (x : Int32) : Byt x.toInt8.toInt32 := ⟨by simp, (c_i2b x).2⟩
theorem own_tab : ∀ n, n < 128 → in2 (ixA (Int32.ofNat n)) ∧ (if n < 64 then (ixA (Int32.ofNat n)).toNatClampNeg = 0 ∧ lowA (Int32.ofNat n) = bitA (Int32.ofNat n) ∧ highA (Int32.ofNat n) = 0 else (ixA (Int32.ofNat n)).toNatClampNeg = 1 ∧ lowA (Int32.ofNat n) = 0 ∧ highA (Int32.ofNat n) = bitA (Int32.ofNat n)) := by decide +kernel
theorem own_pos {b : Int32} (B : Byt b) (h : ¬ b < 0) : ∃ n, n < 128 ∧ b = Int32.ofNat n := own_nat h B.2.2
theorem own_in2 {b : Int32} (B : Byt b) (h : ¬ b < 0) : in2 (ixA b) := by
  obtain ⟨n, hn, rfl⟩ := own_pos B h
  exact (own_tab n hn).1
theorem own_mk {b : Int32} (B : Byt b) (u v : Int64) : mk1 [u, v] b = [u ||| lowA b, v ||| highA b] := by
  by_cases h : b < 0
  · have h64 : b < 64 := by
      rw [Int32.lt_iff_toInt_lt] at h ⊢
      rw [show (0 : Int32).toInt = 0 from rfl] at h
      rw [show (64 : Int32).toInt = 64 from rfl]; omega
    rw [show mk1 [u, v] b = [u, v] from if_pos h, show lowA b = 0 from if_pos h, show highA b = 0 from if_pos h64, Int64.or_zero, Int64.or_zero]
  · rw [show mk1 [u, v] b = [u, v].set (ixA b).toNatClampNeg ([u, v].getD (ixA b).toNatClampNeg 0 ||| bitA b) from if_neg h]
    obtain ⟨n, hn, rfl⟩ := own_pos B h
    have q := (own_tab n hn).2
    by_cases k : n < 64
    · rw [if_pos k] at q
      rw [q.1, q.2.1, q.2.2, Int64.or_zero]; rfl
    · rw [if_neg k] at q
      rw [q.1, q.2.1, q.2.2, Int64.or_zero]; rfl
def bytes (k : Nat) (b0 b1 b2 b3 : Int32) : List Int32 := ((((List.replicate k (0 : Int32)).set 0 b0).set 1 b1).set 2 b2).set 3 b3
theorem own_bytes {k : Nat} (hk : k < 5) (b0 b1 b2 b3 : Int32) : bytes k b0 b1 b2 b3 = [b0, b1, b2, b3].take k := by
  have : k = 0 ∨ k = 1 ∨ k = 2 ∨ k = 3 ∨ k = 4 := by omega
  rcases this with rfl | rfl | rfl | rfl | rfl <;> rfl
def accA (i : Nat) (k : Nat) (u f : Int64) : Int64 := if Int32.ofNat i < Int32.ofNat k then u ||| f else u
def Q0 (Z : State) (p1 p2 : Int32) (q3 q4 : Int64) (h0 : Heap) (n0 : Nat) (v : Option Value) (h : Heap) (L : List Loc) : Prop := v = some (.int (1 : Int32)) ∧ Fr n0 L
theorem pn_0 : plainName "com/example/sluice/sluice/engine/GatheredMarkPinLaw" = true := by first | (simp [plainName, overriddenIn]; done) | decide +kernel
theorem ef_0 (m : MethodId) (p1 : Int32) (p2 : Int32) (q3 : Int64) (q4 : Int64) : entryFrame m #[(.int p1), (.int p2), (.long q3), (.long q4)] maxLocals = mkF m 0 #[.val (.int p1), .val (.int p2), .val (.long q3), .second, .val (.long q4), .second, .unset, .unset, .unset, .unset, .unset, .unset, .unset, .unset, .unset, .unset, .unset, .unset] [] := by first | (simp [entryFrame, mkF, argsToLocals, Value.category, maxLocals]; done) | rfl
set_option maxRecDepth 65536 in
set_option maxHeartbeats 40000000 in
theorem rm0 (l : Launch) (Z : State) (a0 : Array Value) (hw : ∀ d ∈ tables_1, d.before a0 Z = true) (ws : List Jvm.Cond) (p1 : Int32) (p2 : Int32) (q3 : Int64) (q4 : Int64)  (h0 : Heap) (n0 : Nat) (Z0 : n0 ≤ h0.size)  :
    MetFree l x (head1 (Jvm.Cond.code x code maxLocals ret :: ws) room_1) (fun a U => a = #[(.int p1), (.int p2), (.long q3), (.long q4)] ∧ Z.Warmed39 U.vm ∧ U.heap = h0) (fun _ _ _ _ _ => True) (fun _ U o U' => ∃ v L, o = .returned v ∧ Q0 Z p1 p2 q3 q4 h0 n0 v U'.heap L ∧ FrameEnd U o U' L room_1.cells room_1.slots) := by
  refine MetFree.of_bodySF (plainFor_of_name pn_0) hisR ?_
  intro p e s m args below meth c s₁ Bd hml0 hP hK
  obtain ⟨rfl, hZ, hh⟩ := hP
  have hx := Bd.exec
  have hby := Bd.bytes
  have hml : c.maxLocals = 18 := hml0
  have hown : s.vm.findClass "com/example/sluice/sluice/engine/GatheredMarkPinLaw" = some m.cls := findClass_of_methodNamed Bd.named
  have hnm := (name_of_methodNamed Bd.named Bd.method).1
  have X0 : Stand p l e room_1 s m #[(.int p1), (.int p2), (.long q3), (.long q4)] below meth c s₁ [] 0 0 := Stand.of_body Bd
  have e0 : s₁.heap = h0 := by rw [← hh, Bd.state]; rfl
  have N0 := Fr.nil n0
  have pre0 : Goes p e below s₁ (entryFrame m #[(.int p1), (.int p2), (.long q3), (.long q4)] maxLocals) s₁ (mkF m 0 #[.val (.int p1), .val (.int p2), .val (.long q3), .second, .val (.long q4), .second, .unset, .unset, .unset, .unset, .unset, .unset, .unset, .unset, .unset, .unset, .unset, .unset] []) := fun t k => castTop (ef_0 m p1 p2 q3 q4) k
  obtain ⟨k0, hk0, ek0⟩ := own_len p2
  have pre19 : Goes p e below s₁ (entryFrame m #[(.int p1), (.int p2), (.long q3), (.long q4)] maxLocals) s₁ (mkF m 8 #[.val (.int p1), .val (.int p2), .val (.long q3), .second, .val (.long q4), .second, .val (.int ((p2 &&& (2147483647 : Int32)) % (5 : Int32))), .unset, .unset, .unset, .unset, .unset, .unset, .unset, .unset, .unset, .unset, .unset] []) := fun t k => pre0 t (by
      refine XS.iloadN X0.here hx rfl (hb hby at_0) rfl ?_
      show Steps p.tables e below (s₁.setTop (mkF m 1 #[.val (.int p1), .val (.int p2), .val (.long q3), .second, .val (.long q4), .second, .unset, .unset, .unset, .unset, .unset, .unset, .unset, .unset, .unset, .unset, .unset, .unset] [(.int p2)])) _
      refine X0.ldcInt hx hown (mvT hZ (hw _ (List.mem_of_getElem? (i := 0) rfl))) (g := (mkF m 1 #[.val (.int p1), .val (.int p2), .val (.long q3), .second, .val (.long q4), .second, .unset, .unset, .unset, .unset, .unset, .unset, .unset, .unset, .unset, .unset, .unset, .unset] [(.int p2)])) rfl (hb hby at_1) _ ?_
      show Steps p.tables e below (s₁.setTop (mkF m 3 #[.val (.int p1), .val (.int p2), .val (.long q3), .second, .val (.long q4), .second, .unset, .unset, .unset, .unset, .unset, .unset, .unset, .unset, .unset, .unset, .unset, .unset] [(.int (2147483647 : Int32)), (.int p2)])) _
      refine XS.iand X0.here hx rfl (hb hby at_3) rfl ?_
      show Steps p.tables e below (s₁.setTop (mkF m 4 #[.val (.int p1), .val (.int p2), .val (.long q3), .second, .val (.long q4), .second, .unset, .unset, .unset, .unset, .unset, .unset, .unset, .unset, .unset, .unset, .unset, .unset] [(.int (p2 &&& (2147483647 : Int32)))])) _
      refine XS.iconst X0.here hx rfl (hb hby at_4) ?_
      show Steps p.tables e below (s₁.setTop (mkF m 5 #[.val (.int p1), .val (.int p2), .val (.long q3), .second, .val (.long q4), .second, .unset, .unset, .unset, .unset, .unset, .unset, .unset, .unset, .unset, .unset, .unset, .unset] [(.int (5 : Int32)), (.int (p2 &&& (2147483647 : Int32)))])) _
      refine iremM X0 hx rfl (hb hby at_5) rfl (by decide) ?_
      show Steps p.tables e below (s₁.setTop (mkF m 6 #[.val (.int p1), .val (.int p2), .val (.long q3), .second, .val (.long q4), .second, .unset, .unset, .unset, .unset, .unset, .unset, .unset, .unset, .unset, .unset, .unset, .unset] [(.int ((p2 &&& (2147483647 : Int32)) % (5 : Int32)))])) _
      refine XS.istore X0.here hx rfl (hb hby at_6) rfl (l' := #[.val (.int p1), .val (.int p2), .val (.long q3), .second, .val (.long q4), .second, .val (.int ((p2 &&& (2147483647 : Int32)) % (5 : Int32))), .unset, .unset, .unset, .unset, .unset, .unset, .unset, .unset, .unset, .unset, .unset]) rfl ?_
      show Steps p.tables e below (s₁.setTop (mkF m 8 #[.val (.int p1), .val (.int p2), .val (.long q3), .second, .val (.long q4), .second, .val (.int ((p2 &&& (2147483647 : Int32)) % (5 : Int32))), .unset, .unset, .unset, .unset, .unset, .unset, .unset, .unset, .unset, .unset, .unset] [])) _
      exact k)
  rw [ek0] at pre19
  have pre20 : Goes p e below s₁ (entryFrame m #[(.int p1), (.int p2), (.long q3), (.long q4)] maxLocals) s₁ (mkF m 33 #[.val (.int p1), .val (.int p2), .val (.long q3), .second, .val (.long q4), .second, .val (.int (Int32.ofNat k0)), .val (.int (p1.toInt8.toInt32)), .val (.int (((p1.toUInt32 >>> ((8 : Int32) &&& 31).toUInt32).toInt32).toInt8.toInt32)), .val (.int (((p1.toUInt32 >>> ((16 : Int32) &&& 31).toUInt32).toInt32).toInt8.toInt32)), .val (.int (((p1.toUInt32 >>> ((24 : Int32) &&& 31).toUInt32).toInt32).toInt8.toInt32)), .unset, .unset, .unset, .unset, .unset, .unset, .unset] []) := fun t k => pre19 t (by
      refine XS.iloadN X0.here hx rfl (hb hby at_8) rfl ?_
      show Steps p.tables e below (s₁.setTop (mkF m 9 #[.val (.int p1), .val (.int p2), .val (.long q3), .second, .val (.long q4), .second, .val (.int (Int32.ofNat k0)), .unset, .unset, .unset, .unset, .unset, .unset, .unset, .unset, .unset, .unset, .unset] [(.int p1)])) _
      refine XS.i2b X0.here hx rfl (hb hby at_9) rfl ?_
      show Steps p.tables e below (s₁.setTop (mkF m 10 #[.val (.int p1), .val (.int p2), .val (.long q3), .second, .val (.long q4), .second, .val (.int (Int32.ofNat k0)), .unset, .unset, .unset, .unset, .unset, .unset, .unset, .unset, .unset, .unset, .unset] [(.int (p1.toInt8.toInt32))])) _
      refine XS.istore X0.here hx rfl (hb hby at_10) rfl (l' := #[.val (.int p1), .val (.int p2), .val (.long q3), .second, .val (.long q4), .second, .val (.int (Int32.ofNat k0)), .val (.int (p1.toInt8.toInt32)), .unset, .unset, .unset, .unset, .unset, .unset, .unset, .unset, .unset, .unset]) rfl ?_
      show Steps p.tables e below (s₁.setTop (mkF m 12 #[.val (.int p1), .val (.int p2), .val (.long q3), .second, .val (.long q4), .second, .val (.int (Int32.ofNat k0)), .val (.int (p1.toInt8.toInt32)), .unset, .unset, .unset, .unset, .unset, .unset, .unset, .unset, .unset, .unset] [])) _
      refine XS.iloadN X0.here hx rfl (hb hby at_12) rfl ?_
      show Steps p.tables e below (s₁.setTop (mkF m 13 #[.val (.int p1), .val (.int p2), .val (.long q3), .second, .val (.long q4), .second, .val (.int (Int32.ofNat k0)), .val (.int (p1.toInt8.toInt32)), .unset, .unset, .unset, .unset, .unset, .unset, .unset, .unset, .unset, .unset] [(.int p1)])) _
      refine XS.bipush X0.here hx rfl (hb hby at_13) ?_
      show Steps p.tables e below (s₁.setTop (mkF m 15 #[.val (.int p1), .val (.int p2), .val (.long q3), .second, .val (.long q4), .second, .val (.int (Int32.ofNat k0)), .val (.int (p1.toInt8.toInt32)), .unset, .unset, .unset, .unset, .unset, .unset, .unset, .unset, .unset, .unset] [(.int (8 : Int32)), (.int p1)])) _
      refine XS.iushr X0.here hx rfl (hb hby at_15) rfl ?_
      show Steps p.tables e below (s₁.setTop (mkF m 16 #[.val (.int p1), .val (.int p2), .val (.long q3), .second, .val (.long q4), .second, .val (.int (Int32.ofNat k0)), .val (.int (p1.toInt8.toInt32)), .unset, .unset, .unset, .unset, .unset, .unset, .unset, .unset, .unset, .unset] [(.int ((p1.toUInt32 >>> ((8 : Int32) &&& 31).toUInt32).toInt32))])) _
      refine XS.i2b X0.here hx rfl (hb hby at_16) rfl ?_
      show Steps p.tables e below (s₁.setTop (mkF m 17 #[.val (.int p1), .val (.int p2), .val (.long q3), .second, .val (.long q4), .second, .val (.int (Int32.ofNat k0)), .val (.int (p1.toInt8.toInt32)), .unset, .unset, .unset, .unset, .unset, .unset, .unset, .unset, .unset, .unset] [(.int (((p1.toUInt32 >>> ((8 : Int32) &&& 31).toUInt32).toInt32).toInt8.toInt32))])) _
      refine XS.istore X0.here hx rfl (hb hby at_17) rfl (l' := #[.val (.int p1), .val (.int p2), .val (.long q3), .second, .val (.long q4), .second, .val (.int (Int32.ofNat k0)), .val (.int (p1.toInt8.toInt32)), .val (.int (((p1.toUInt32 >>> ((8 : Int32) &&& 31).toUInt32).toInt32).toInt8.toInt32)), .unset, .unset, .unset, .unset, .unset, .unset, .unset, .unset, .unset]) rfl ?_
      show Steps p.tables e below (s₁.setTop (mkF m 19 #[.val (.int p1), .val (.int p2), .val (.long q3), .second, .val (.long q4), .second, .val (.int (Int32.ofNat k0)), .val (.int (p1.toInt8.toInt32)), .val (.int (((p1.toUInt32 >>> ((8 : Int32) &&& 31).toUInt32).toInt32).toInt8.toInt32)), .unset, .unset, .unset, .unset, .unset, .unset, .unset, .unset, .unset] [])) _
      refine XS.iloadN X0.here hx rfl (hb hby at_19) rfl ?_
      show Steps p.tables e below (s₁.setTop (mkF m 20 #[.val (.int p1), .val (.int p2), .val (.long q3), .second, .val (.long q4), .second, .val (.int (Int32.ofNat k0)), .val (.int (p1.toInt8.toInt32)), .val (.int (((p1.toUInt32 >>> ((8 : Int32) &&& 31).toUInt32).toInt32).toInt8.toInt32)), .unset, .unset, .unset, .unset, .unset, .unset, .unset, .unset, .unset] [(.int p1)])) _
      refine XS.bipush X0.here hx rfl (hb hby at_20) ?_
      show Steps p.tables e below (s₁.setTop (mkF m 22 #[.val (.int p1), .val (.int p2), .val (.long q3), .second, .val (.long q4), .second, .val (.int (Int32.ofNat k0)), .val (.int (p1.toInt8.toInt32)), .val (.int (((p1.toUInt32 >>> ((8 : Int32) &&& 31).toUInt32).toInt32).toInt8.toInt32)), .unset, .unset, .unset, .unset, .unset, .unset, .unset, .unset, .unset] [(.int (16 : Int32)), (.int p1)])) _
      refine XS.iushr X0.here hx rfl (hb hby at_22) rfl ?_
      show Steps p.tables e below (s₁.setTop (mkF m 23 #[.val (.int p1), .val (.int p2), .val (.long q3), .second, .val (.long q4), .second, .val (.int (Int32.ofNat k0)), .val (.int (p1.toInt8.toInt32)), .val (.int (((p1.toUInt32 >>> ((8 : Int32) &&& 31).toUInt32).toInt32).toInt8.toInt32)), .unset, .unset, .unset, .unset, .unset, .unset, .unset, .unset, .unset] [(.int ((p1.toUInt32 >>> ((16 : Int32) &&& 31).toUInt32).toInt32))])) _
      refine XS.i2b X0.here hx rfl (hb hby at_23) rfl ?_
      show Steps p.tables e below (s₁.setTop (mkF m 24 #[.val (.int p1), .val (.int p2), .val (.long q3), .second, .val (.long q4), .second, .val (.int (Int32.ofNat k0)), .val (.int (p1.toInt8.toInt32)), .val (.int (((p1.toUInt32 >>> ((8 : Int32) &&& 31).toUInt32).toInt32).toInt8.toInt32)), .unset, .unset, .unset, .unset, .unset, .unset, .unset, .unset, .unset] [(.int (((p1.toUInt32 >>> ((16 : Int32) &&& 31).toUInt32).toInt32).toInt8.toInt32))])) _
      refine XS.istore X0.here hx rfl (hb hby at_24) rfl (l' := #[.val (.int p1), .val (.int p2), .val (.long q3), .second, .val (.long q4), .second, .val (.int (Int32.ofNat k0)), .val (.int (p1.toInt8.toInt32)), .val (.int (((p1.toUInt32 >>> ((8 : Int32) &&& 31).toUInt32).toInt32).toInt8.toInt32)), .val (.int (((p1.toUInt32 >>> ((16 : Int32) &&& 31).toUInt32).toInt32).toInt8.toInt32)), .unset, .unset, .unset, .unset, .unset, .unset, .unset, .unset]) rfl ?_
      show Steps p.tables e below (s₁.setTop (mkF m 26 #[.val (.int p1), .val (.int p2), .val (.long q3), .second, .val (.long q4), .second, .val (.int (Int32.ofNat k0)), .val (.int (p1.toInt8.toInt32)), .val (.int (((p1.toUInt32 >>> ((8 : Int32) &&& 31).toUInt32).toInt32).toInt8.toInt32)), .val (.int (((p1.toUInt32 >>> ((16 : Int32) &&& 31).toUInt32).toInt32).toInt8.toInt32)), .unset, .unset, .unset, .unset, .unset, .unset, .unset, .unset] [])) _
      refine XS.iloadN X0.here hx rfl (hb hby at_26) rfl ?_
      show Steps p.tables e below (s₁.setTop (mkF m 27 #[.val (.int p1), .val (.int p2), .val (.long q3), .second, .val (.long q4), .second, .val (.int (Int32.ofNat k0)), .val (.int (p1.toInt8.toInt32)), .val (.int (((p1.toUInt32 >>> ((8 : Int32) &&& 31).toUInt32).toInt32).toInt8.toInt32)), .val (.int (((p1.toUInt32 >>> ((16 : Int32) &&& 31).toUInt32).toInt32).toInt8.toInt32)), .unset, .unset, .unset, .unset, .unset, .unset, .unset, .unset] [(.int p1)])) _
      refine XS.bipush X0.here hx rfl (hb hby at_27) ?_
      show Steps p.tables e below (s₁.setTop (mkF m 29 #[.val (.int p1), .val (.int p2), .val (.long q3), .second, .val (.long q4), .second, .val (.int (Int32.ofNat k0)), .val (.int (p1.toInt8.toInt32)), .val (.int (((p1.toUInt32 >>> ((8 : Int32) &&& 31).toUInt32).toInt32).toInt8.toInt32)), .val (.int (((p1.toUInt32 >>> ((16 : Int32) &&& 31).toUInt32).toInt32).toInt8.toInt32)), .unset, .unset, .unset, .unset, .unset, .unset, .unset, .unset] [(.int (24 : Int32)), (.int p1)])) _
      refine XS.iushr X0.here hx rfl (hb hby at_29) rfl ?_
      show Steps p.tables e below (s₁.setTop (mkF m 30 #[.val (.int p1), .val (.int p2), .val (.long q3), .second, .val (.long q4), .second, .val (.int (Int32.ofNat k0)), .val (.int (p1.toInt8.toInt32)), .val (.int (((p1.toUInt32 >>> ((8 : Int32) &&& 31).toUInt32).toInt32).toInt8.toInt32)), .val (.int (((p1.toUInt32 >>> ((16 : Int32) &&& 31).toUInt32).toInt32).toInt8.toInt32)), .unset, .unset, .unset, .unset, .unset, .unset, .unset, .unset] [(.int ((p1.toUInt32 >>> ((24 : Int32) &&& 31).toUInt32).toInt32))])) _
      refine XS.i2b X0.here hx rfl (hb hby at_30) rfl ?_
      show Steps p.tables e below (s₁.setTop (mkF m 31 #[.val (.int p1), .val (.int p2), .val (.long q3), .second, .val (.long q4), .second, .val (.int (Int32.ofNat k0)), .val (.int (p1.toInt8.toInt32)), .val (.int (((p1.toUInt32 >>> ((8 : Int32) &&& 31).toUInt32).toInt32).toInt8.toInt32)), .val (.int (((p1.toUInt32 >>> ((16 : Int32) &&& 31).toUInt32).toInt32).toInt8.toInt32)), .unset, .unset, .unset, .unset, .unset, .unset, .unset, .unset] [(.int (((p1.toUInt32 >>> ((24 : Int32) &&& 31).toUInt32).toInt32).toInt8.toInt32))])) _
      refine XS.istore X0.here hx rfl (hb hby at_31) rfl (l' := #[.val (.int p1), .val (.int p2), .val (.long q3), .second, .val (.long q4), .second, .val (.int (Int32.ofNat k0)), .val (.int (p1.toInt8.toInt32)), .val (.int (((p1.toUInt32 >>> ((8 : Int32) &&& 31).toUInt32).toInt32).toInt8.toInt32)), .val (.int (((p1.toUInt32 >>> ((16 : Int32) &&& 31).toUInt32).toInt32).toInt8.toInt32)), .val (.int (((p1.toUInt32 >>> ((24 : Int32) &&& 31).toUInt32).toInt32).toInt8.toInt32)), .unset, .unset, .unset, .unset, .unset, .unset, .unset]) rfl ?_
      show Steps p.tables e below (s₁.setTop (mkF m 33 #[.val (.int p1), .val (.int p2), .val (.long q3), .second, .val (.long q4), .second, .val (.int (Int32.ofNat k0)), .val (.int (p1.toInt8.toInt32)), .val (.int (((p1.toUInt32 >>> ((8 : Int32) &&& 31).toUInt32).toInt32).toInt8.toInt32)), .val (.int (((p1.toUInt32 >>> ((16 : Int32) &&& 31).toUInt32).toInt32).toInt8.toInt32)), .val (.int (((p1.toUInt32 >>> ((24 : Int32) &&& 31).toUInt32).toInt32).toInt8.toInt32)), .unset, .unset, .unset, .unset, .unset, .unset, .unset] [])) _
      exact k)
  obtain ⟨b0_, eb0⟩ : ∃ z, z = (p1.toInt8.toInt32) := ⟨_, rfl⟩
  rw [← eb0] at pre20
  obtain ⟨b3_, eb3⟩ : ∃ z, z = (((p1.toUInt32 >>> ((24 : Int32) &&& 31).toUInt32).toInt32).toInt8.toInt32) := ⟨_, rfl⟩
  rw [← eb3] at pre20
  obtain ⟨b2_, eb2⟩ : ∃ z, z = (((p1.toUInt32 >>> ((16 : Int32) &&& 31).toUInt32).toInt32).toInt8.toInt32) := ⟨_, rfl⟩
  rw [← eb2] at pre20
  obtain ⟨b1_, eb1⟩ : ∃ z, z = (((p1.toUInt32 >>> ((8 : Int32) &&& 31).toUInt32).toInt32).toInt8.toInt32) := ⟨_, rfl⟩
  rw [← eb1] at pre20
  have B0 : Byt b0_ := by rw [eb0]; exact own_byt _
  have B1 : Byt b1_ := by rw [eb1]; exact own_byt _
  have B2 : Byt b2_ := by rw [eb2]; exact own_byt _
  have B3 : Byt b3_ := by rw [eb3]; exact own_byt _
  have hcl := own_clamp (i := k0) (by omega)
  have pre21 : Goes p e below s₁ (entryFrame m #[(.int p1), (.int p2), (.long q3), (.long q4)] maxLocals) s₁ (mkF m 35 #[.val (.int p1), .val (.int p2), .val (.long q3), .second, .val (.long q4), .second, .val (.int (Int32.ofNat k0)), .val (.int b0_), .val (.int b1_), .val (.int b2_), .val (.int b3_), .unset, .unset, .unset, .unset, .unset, .unset, .unset] [(.int (Int32.ofNat k0))]) := fun t k => pre20 t (by
      refine XS.iload X0.here hx rfl (hb hby at_33) rfl ?_
      show Steps p.tables e below (s₁.setTop (mkF m 35 #[.val (.int p1), .val (.int p2), .val (.long q3), .second, .val (.long q4), .second, .val (.int (Int32.ofNat k0)), .val (.int b0_), .val (.int b1_), .val (.int b2_), .val (.int b3_), .unset, .unset, .unset, .unset, .unset, .unset, .unset] [(.int (Int32.ofNat k0))])) _
      exact k)
  obtain ⟨T22, h22, k22, X22, e22, E22, A22, st22⟩ := newP X0 hx hZ (hw _ (List.mem_of_getElem? (i := 1) rfl)) e0 (g := (mkF m 35 #[.val (.int p1), .val (.int p2), .val (.long q3), .second, .val (.long q4), .second, .val (.int (Int32.ofNat k0)), .val (.int b0_), .val (.int b1_), .val (.int b2_), .val (.int b3_), .unset, .unset, .unset, .unset, .unset, .unset, .unset] [(.int (Int32.ofNat k0))])) rfl (hb hby at_35) rfl hcl.1 (cap := 4) (by rw [hcl.2]; omega) (by decide) (by decide) (by decide)
  obtain ⟨b22, g22⟩ : ∃ z, z = h0.size := ⟨_, rfl⟩
  rw [← g22] at A22 st22
  have pre22 : Goes p e below s₁ (entryFrame m #[(.int p1), (.int p2), (.long q3), (.long q4)] maxLocals) T22 (mkF m 37 #[.val (.int p1), .val (.int p2), .val (.long q3), .second, .val (.long q4), .second, .val (.int (Int32.ofNat k0)), .val (.int b0_), .val (.int b1_), .val (.int b2_), .val (.int b3_), .unset, .unset, .unset, .unset, .unset, .unset, .unset] [(.ref b22)]) := fun t k => pre21 t (st22 _ k)
  have I0 : Iw Z h22 b22 .byte ((List.replicate k0 (0 : Int32)).map Value.int) := ⟨_, A22, by simp only [newA, hcl.2, Array.toList_replicate, List.map_replicate]; rfl⟩
  have gi : n0 ≤ b22 := Nat.le_trans Z0 (Nat.le_of_eq g22.symm)
  have z0 : h0.size ≤ h22.size := E22.1
  have pre23 : Goes p e below s₁ (entryFrame m #[(.int p1), (.int p2), (.long q3), (.long q4)] maxLocals) T22 (mkF m 41 #[.val (.int p1), .val (.int p2), .val (.long q3), .second, .val (.long q4), .second, .val (.int (Int32.ofNat k0)), .val (.int b0_), .val (.int b1_), .val (.int b2_), .val (.int b3_), .val (.ref b22), .unset, .unset, .unset, .unset, .unset, .unset] [(.int (Int32.ofNat k0))]) := fun t k => pre22 t (by
      refine XS.astore X22.here hx rfl (hb hby at_37) rfl rfl (l' := #[.val (.int p1), .val (.int p2), .val (.long q3), .second, .val (.long q4), .second, .val (.int (Int32.ofNat k0)), .val (.int b0_), .val (.int b1_), .val (.int b2_), .val (.int b3_), .val (.ref b22), .unset, .unset, .unset, .unset, .unset, .unset]) rfl ?_
      show Steps p.tables e below (T22.setTop (mkF m 39 #[.val (.int p1), .val (.int p2), .val (.long q3), .second, .val (.long q4), .second, .val (.int (Int32.ofNat k0)), .val (.int b0_), .val (.int b1_), .val (.int b2_), .val (.int b3_), .val (.ref b22), .unset, .unset, .unset, .unset, .unset, .unset] [])) _
      refine XS.iload X22.here hx rfl (hb hby at_39) rfl ?_
      show Steps p.tables e below (T22.setTop (mkF m 41 #[.val (.int p1), .val (.int p2), .val (.long q3), .second, .val (.long q4), .second, .val (.int (Int32.ofNat k0)), .val (.int b0_), .val (.int b1_), .val (.int b2_), .val (.int b3_), .val (.ref b22), .unset, .unset, .unset, .unset, .unset, .unset] [(.int (Int32.ofNat k0))])) _
      exact k)
  obtain ⟨T24, h24, L24, X24, e24, N24, z24, I24, pre24⟩ : ∃ (T' : State) (h' : Heap) (L' : List Loc), Stand p l e room_1 s m #[(.int p1), (.int p2), (.long q3), (.long q4)] below meth c T' L' 1 4 ∧ T'.heap = h' ∧ Fr n0 L' ∧ h0.size ≤ h'.size ∧ Iw Z h' b22 .byte (((List.replicate k0 (0 : Int32)).set 0 b0_).map Value.int) ∧ Goes p e below s₁ (entryFrame m #[(.int p1), (.int p2), (.long q3), (.long q4)] maxLocals) T' (mkF m 50 #[.val (.int p1), .val (.int p2), .val (.long q3), .second, .val (.long q4), .second, .val (.int (Int32.ofNat k0)), .val (.int b0_), .val (.int b1_), .val (.int b2_), .val (.int b3_), .val (.ref b22), .unset, .unset, .unset, .unset, .unset, .unset] []) := by
    by_cases hs0 : (0 : Int32) < (Int32.ofNat k0)
    · skip
      have hlt : 0 < k0 := Nat.lt_of_not_le fun q => absurd hs0 (by have : k0 ≤ 0 := q; intro hh; rw [Int32.lt_iff_toInt_lt, Int32.toInt_ofNat_small (by omega), show (0 : Int32).toInt = 0 from rfl] at hh; omega)
      obtain ⟨c1, A1, l1⟩ := I0
      have hin : ¬ ((0 : Int32) < 0 ∨ c1.slots.size ≤ (0 : Int32).toNatClampNeg) := by rw [size_of_list l1, show (0 : Int32).toNatClampNeg = 0 from rfl]; simp only [List.length_set, List.length_replicate]; exact fun q => q.elim (by decide) (Nat.not_le.mpr hlt)
      have pre25 : Goes p e below s₁ (entryFrame m #[(.int p1), (.int p2), (.long q3), (.long q4)] maxLocals) T22 (mkF m 49 #[.val (.int p1), .val (.int p2), .val (.long q3), .second, .val (.long q4), .second, .val (.int (Int32.ofNat k0)), .val (.int b0_), .val (.int b1_), .val (.int b2_), .val (.int b3_), .val (.ref b22), .unset, .unset, .unset, .unset, .unset, .unset] [(.int b0_), (.int (0 : Int32)), (.ref b22)]) := fun t k => pre23 t (by
          refine XS.ifNo X22.here hx rfl (hb hby at_41) rfl ((if0 _ _).trans (tlt hs0).2.2.2) ?_
          show Steps p.tables e below (T22.setTop (mkF m 44 #[.val (.int p1), .val (.int p2), .val (.long q3), .second, .val (.long q4), .second, .val (.int (Int32.ofNat k0)), .val (.int b0_), .val (.int b1_), .val (.int b2_), .val (.int b3_), .val (.ref b22), .unset, .unset, .unset, .unset, .unset, .unset] [])) _
          refine XS.aload X22.here hx rfl (hb hby at_44) rfl rfl ?_
          show Steps p.tables e below (T22.setTop (mkF m 46 #[.val (.int p1), .val (.int p2), .val (.long q3), .second, .val (.long q4), .second, .val (.int (Int32.ofNat k0)), .val (.int b0_), .val (.int b1_), .val (.int b2_), .val (.int b3_), .val (.ref b22), .unset, .unset, .unset, .unset, .unset, .unset] [(.ref b22)])) _
          refine XS.iconst X22.here hx rfl (hb hby at_46) ?_
          show Steps p.tables e below (T22.setTop (mkF m 47 #[.val (.int p1), .val (.int p2), .val (.long q3), .second, .val (.long q4), .second, .val (.int (Int32.ofNat k0)), .val (.int b0_), .val (.int b1_), .val (.int b2_), .val (.int b3_), .val (.ref b22), .unset, .unset, .unset, .unset, .unset, .unset] [(.int (0 : Int32)), (.ref b22)])) _
          refine XS.iload X22.here hx rfl (hb hby at_47) rfl ?_
          show Steps p.tables e below (T22.setTop (mkF m 49 #[.val (.int p1), .val (.int p2), .val (.long q3), .second, .val (.long q4), .second, .val (.int (Int32.ofNat k0)), .val (.int b0_), .val (.int b1_), .val (.int b2_), .val (.int b3_), .val (.ref b22), .unset, .unset, .unset, .unset, .unset, .unset] [(.int b0_), (.int (0 : Int32)), (.ref b22)])) _
          exact k)
      obtain ⟨T26, h26, X26, e26, W26, st26⟩ := stB X22 hx hZ e22 A1 (j := (0 : Int32)) hin (g := (mkF m 49 #[.val (.int p1), .val (.int p2), .val (.long q3), .second, .val (.long q4), .second, .val (.int (Int32.ofNat k0)), .val (.int b0_), .val (.int b1_), .val (.int b2_), .val (.int b3_), .val (.ref b22), .unset, .unset, .unset, .unset, .unset, .unset] [(.int b0_), (.int (0 : Int32)), (.ref b22)])) rfl rfl (hb hby at_49)
      have N26 := Fr.snoc X26 N0 gi
      have pre26 : Goes p e below s₁ (entryFrame m #[(.int p1), (.int p2), (.long q3), (.long q4)] maxLocals) T26 (mkF m 50 #[.val (.int p1), .val (.int p2), .val (.long q3), .second, .val (.long q4), .second, .val (.int (Int32.ofNat k0)), .val (.int b0_), .val (.int b1_), .val (.int b2_), .val (.int b3_), .val (.ref b22), .unset, .unset, .unset, .unset, .unset, .unset] []) := fun t k => pre25 t (st26 _ k)
      have W26' := W26
      rw [show nar .byte b0_ = b0_ from B0.1] at W26'
      exact ⟨_, _, _, X26, e26, N26, W26.size ▸ z0, Iw.setI ⟨c1, A1, l1⟩ W26', pre26⟩
    · skip
      have pre27 : Goes p e below s₁ (entryFrame m #[(.int p1), (.int p2), (.long q3), (.long q4)] maxLocals) T22 (mkF m 50 #[.val (.int p1), .val (.int p2), .val (.long q3), .second, .val (.long q4), .second, .val (.int (Int32.ofNat k0)), .val (.int b0_), .val (.int b1_), .val (.int b2_), .val (.int b3_), .val (.ref b22), .unset, .unset, .unset, .unset, .unset, .unset] []) := fun t k => pre23 t (by
          refine XS.ifYes X22.here hx rfl (pc0 := 41) (pc' := 50) rfl (hb hby at_41) rfl ((if0 _ _).trans (flt hs0).2.2.2) (by decide) (by decide) ?_
          show Steps p.tables e below (T22.setTop (mkF m 50 #[.val (.int p1), .val (.int p2), .val (.long q3), .second, .val (.long q4), .second, .val (.int (Int32.ofNat k0)), .val (.int b0_), .val (.int b1_), .val (.int b2_), .val (.int b3_), .val (.ref b22), .unset, .unset, .unset, .unset, .unset, .unset] [])) _
          exact k)
      have hge : k0 ≤ 0 := Nat.le_of_not_lt fun q => hs0 (own_ofNat (i := 0) q (by omega))
      have hno : ((List.replicate k0 (0 : Int32)).set 0 b0_) = (List.replicate k0 (0 : Int32)) := List.set_eq_of_length_le (by simp only [List.length_set, List.length_replicate]; exact hge)
      exact ⟨_, _, _, X22, e22, N0, z0, by rw [hno]; exact I0, pre27⟩
  have pre28 : Goes p e below s₁ (entryFrame m #[(.int p1), (.int p2), (.long q3), (.long q4)] maxLocals) T24 (mkF m 53 #[.val (.int p1), .val (.int p2), .val (.long q3), .second, .val (.long q4), .second, .val (.int (Int32.ofNat k0)), .val (.int b0_), .val (.int b1_), .val (.int b2_), .val (.int b3_), .val (.ref b22), .unset, .unset, .unset, .unset, .unset, .unset] [(.int (1 : Int32)), (.int (Int32.ofNat k0))]) := fun t k => pre24 t (by
      refine XS.iload X24.here hx rfl (hb hby at_50) rfl ?_
      show Steps p.tables e below (T24.setTop (mkF m 52 #[.val (.int p1), .val (.int p2), .val (.long q3), .second, .val (.long q4), .second, .val (.int (Int32.ofNat k0)), .val (.int b0_), .val (.int b1_), .val (.int b2_), .val (.int b3_), .val (.ref b22), .unset, .unset, .unset, .unset, .unset, .unset] [(.int (Int32.ofNat k0))])) _
      refine XS.iconst X24.here hx rfl (hb hby at_52) ?_
      show Steps p.tables e below (T24.setTop (mkF m 53 #[.val (.int p1), .val (.int p2), .val (.long q3), .second, .val (.long q4), .second, .val (.int (Int32.ofNat k0)), .val (.int b0_), .val (.int b1_), .val (.int b2_), .val (.int b3_), .val (.ref b22), .unset, .unset, .unset, .unset, .unset, .unset] [(.int (1 : Int32)), (.int (Int32.ofNat k0))])) _
      exact k)
  obtain ⟨T29, h29, L29, X29, e29, N29, z29, I29, pre29⟩ : ∃ (T' : State) (h' : Heap) (L' : List Loc), Stand p l e room_1 s m #[(.int p1), (.int p2), (.long q3), (.long q4)] below meth c T' L' 1 4 ∧ T'.heap = h' ∧ Fr n0 L' ∧ h0.size ≤ h'.size ∧ Iw Z h' b22 .byte ((((List.replicate k0 (0 : Int32)).set 0 b0_).set 1 b1_).map Value.int) ∧ Goes p e below s₁ (entryFrame m #[(.int p1), (.int p2), (.long q3), (.long q4)] maxLocals) T' (mkF m 62 #[.val (.int p1), .val (.int p2), .val (.long q3), .second, .val (.long q4), .second, .val (.int (Int32.ofNat k0)), .val (.int b0_), .val (.int b1_), .val (.int b2_), .val (.int b3_), .val (.ref b22), .unset, .unset, .unset, .unset, .unset, .unset] []) := by
    by_cases hs1 : (1 : Int32) < (Int32.ofNat k0)
    · skip
      have hlt : 1 < k0 := Nat.lt_of_not_le fun q => absurd hs1 (by have : k0 ≤ 1 := q; intro hh; rw [Int32.lt_iff_toInt_lt, Int32.toInt_ofNat_small (by omega), show (1 : Int32).toInt = 1 from rfl] at hh; omega)
      obtain ⟨c1, A1, l1⟩ := I24
      have hin : ¬ ((1 : Int32) < 0 ∨ c1.slots.size ≤ (1 : Int32).toNatClampNeg) := by rw [size_of_list l1, show (1 : Int32).toNatClampNeg = 1 from rfl]; simp only [List.length_set, List.length_replicate]; exact fun q => q.elim (by decide) (Nat.not_le.mpr hlt)
      have pre30 : Goes p e below s₁ (entryFrame m #[(.int p1), (.int p2), (.long q3), (.long q4)] maxLocals) T24 (mkF m 61 #[.val (.int p1), .val (.int p2), .val (.long q3), .second, .val (.long q4), .second, .val (.int (Int32.ofNat k0)), .val (.int b0_), .val (.int b1_), .val (.int b2_), .val (.int b3_), .val (.ref b22), .unset, .unset, .unset, .unset, .unset, .unset] [(.int b1_), (.int (1 : Int32)), (.ref b22)]) := fun t k => pre28 t (by
          refine XS.icmpNo X24.here hx rfl (hb hby at_53) rfl (tlt hs1).2.2.2 ?_
          show Steps p.tables e below (T24.setTop (mkF m 56 #[.val (.int p1), .val (.int p2), .val (.long q3), .second, .val (.long q4), .second, .val (.int (Int32.ofNat k0)), .val (.int b0_), .val (.int b1_), .val (.int b2_), .val (.int b3_), .val (.ref b22), .unset, .unset, .unset, .unset, .unset, .unset] [])) _
          refine XS.aload X24.here hx rfl (hb hby at_56) rfl rfl ?_
          show Steps p.tables e below (T24.setTop (mkF m 58 #[.val (.int p1), .val (.int p2), .val (.long q3), .second, .val (.long q4), .second, .val (.int (Int32.ofNat k0)), .val (.int b0_), .val (.int b1_), .val (.int b2_), .val (.int b3_), .val (.ref b22), .unset, .unset, .unset, .unset, .unset, .unset] [(.ref b22)])) _
          refine XS.iconst X24.here hx rfl (hb hby at_58) ?_
          show Steps p.tables e below (T24.setTop (mkF m 59 #[.val (.int p1), .val (.int p2), .val (.long q3), .second, .val (.long q4), .second, .val (.int (Int32.ofNat k0)), .val (.int b0_), .val (.int b1_), .val (.int b2_), .val (.int b3_), .val (.ref b22), .unset, .unset, .unset, .unset, .unset, .unset] [(.int (1 : Int32)), (.ref b22)])) _
          refine XS.iload X24.here hx rfl (hb hby at_59) rfl ?_
          show Steps p.tables e below (T24.setTop (mkF m 61 #[.val (.int p1), .val (.int p2), .val (.long q3), .second, .val (.long q4), .second, .val (.int (Int32.ofNat k0)), .val (.int b0_), .val (.int b1_), .val (.int b2_), .val (.int b3_), .val (.ref b22), .unset, .unset, .unset, .unset, .unset, .unset] [(.int b1_), (.int (1 : Int32)), (.ref b22)])) _
          exact k)
      obtain ⟨T31, h31, X31, e31, W31, st31⟩ := stB X24 hx hZ e24 A1 (j := (1 : Int32)) hin (g := (mkF m 61 #[.val (.int p1), .val (.int p2), .val (.long q3), .second, .val (.long q4), .second, .val (.int (Int32.ofNat k0)), .val (.int b0_), .val (.int b1_), .val (.int b2_), .val (.int b3_), .val (.ref b22), .unset, .unset, .unset, .unset, .unset, .unset] [(.int b1_), (.int (1 : Int32)), (.ref b22)])) rfl rfl (hb hby at_61)
      have N31 := Fr.snoc X31 N24 gi
      have pre31 : Goes p e below s₁ (entryFrame m #[(.int p1), (.int p2), (.long q3), (.long q4)] maxLocals) T31 (mkF m 62 #[.val (.int p1), .val (.int p2), .val (.long q3), .second, .val (.long q4), .second, .val (.int (Int32.ofNat k0)), .val (.int b0_), .val (.int b1_), .val (.int b2_), .val (.int b3_), .val (.ref b22), .unset, .unset, .unset, .unset, .unset, .unset] []) := fun t k => pre30 t (st31 _ k)
      have W31' := W31
      rw [show nar .byte b1_ = b1_ from B1.1] at W31'
      exact ⟨_, _, _, X31, e31, N31, W31.size ▸ z24, Iw.setI ⟨c1, A1, l1⟩ W31', pre31⟩
    · skip
      have pre32 : Goes p e below s₁ (entryFrame m #[(.int p1), (.int p2), (.long q3), (.long q4)] maxLocals) T24 (mkF m 62 #[.val (.int p1), .val (.int p2), .val (.long q3), .second, .val (.long q4), .second, .val (.int (Int32.ofNat k0)), .val (.int b0_), .val (.int b1_), .val (.int b2_), .val (.int b3_), .val (.ref b22), .unset, .unset, .unset, .unset, .unset, .unset] []) := fun t k => pre28 t (by
          refine XS.icmpYes X24.here hx rfl (pc0 := 53) (pc' := 62) rfl (hb hby at_53) rfl (flt hs1).2.2.2 (by decide) (by decide) ?_
          show Steps p.tables e below (T24.setTop (mkF m 62 #[.val (.int p1), .val (.int p2), .val (.long q3), .second, .val (.long q4), .second, .val (.int (Int32.ofNat k0)), .val (.int b0_), .val (.int b1_), .val (.int b2_), .val (.int b3_), .val (.ref b22), .unset, .unset, .unset, .unset, .unset, .unset] [])) _
          exact k)
      have hge : k0 ≤ 1 := Nat.le_of_not_lt fun q => hs1 (own_ofNat (i := 1) q (by omega))
      have hno : (((List.replicate k0 (0 : Int32)).set 0 b0_).set 1 b1_) = ((List.replicate k0 (0 : Int32)).set 0 b0_) := List.set_eq_of_length_le (by simp only [List.length_set, List.length_replicate]; exact hge)
      exact ⟨_, _, _, X24, e24, N24, z24, by rw [hno]; exact I24, pre32⟩
  have pre33 : Goes p e below s₁ (entryFrame m #[(.int p1), (.int p2), (.long q3), (.long q4)] maxLocals) T29 (mkF m 65 #[.val (.int p1), .val (.int p2), .val (.long q3), .second, .val (.long q4), .second, .val (.int (Int32.ofNat k0)), .val (.int b0_), .val (.int b1_), .val (.int b2_), .val (.int b3_), .val (.ref b22), .unset, .unset, .unset, .unset, .unset, .unset] [(.int (2 : Int32)), (.int (Int32.ofNat k0))]) := fun t k => pre29 t (by
      refine XS.iload X29.here hx rfl (hb hby at_62) rfl ?_
      show Steps p.tables e below (T29.setTop (mkF m 64 #[.val (.int p1), .val (.int p2), .val (.long q3), .second, .val (.long q4), .second, .val (.int (Int32.ofNat k0)), .val (.int b0_), .val (.int b1_), .val (.int b2_), .val (.int b3_), .val (.ref b22), .unset, .unset, .unset, .unset, .unset, .unset] [(.int (Int32.ofNat k0))])) _
      refine XS.iconst X29.here hx rfl (hb hby at_64) ?_
      show Steps p.tables e below (T29.setTop (mkF m 65 #[.val (.int p1), .val (.int p2), .val (.long q3), .second, .val (.long q4), .second, .val (.int (Int32.ofNat k0)), .val (.int b0_), .val (.int b1_), .val (.int b2_), .val (.int b3_), .val (.ref b22), .unset, .unset, .unset, .unset, .unset, .unset] [(.int (2 : Int32)), (.int (Int32.ofNat k0))])) _
      exact k)
  obtain ⟨T34, h34, L34, X34, e34, N34, z34, I34, pre34⟩ : ∃ (T' : State) (h' : Heap) (L' : List Loc), Stand p l e room_1 s m #[(.int p1), (.int p2), (.long q3), (.long q4)] below meth c T' L' 1 4 ∧ T'.heap = h' ∧ Fr n0 L' ∧ h0.size ≤ h'.size ∧ Iw Z h' b22 .byte (((((List.replicate k0 (0 : Int32)).set 0 b0_).set 1 b1_).set 2 b2_).map Value.int) ∧ Goes p e below s₁ (entryFrame m #[(.int p1), (.int p2), (.long q3), (.long q4)] maxLocals) T' (mkF m 74 #[.val (.int p1), .val (.int p2), .val (.long q3), .second, .val (.long q4), .second, .val (.int (Int32.ofNat k0)), .val (.int b0_), .val (.int b1_), .val (.int b2_), .val (.int b3_), .val (.ref b22), .unset, .unset, .unset, .unset, .unset, .unset] []) := by
    by_cases hs2 : (2 : Int32) < (Int32.ofNat k0)
    · skip
      have hlt : 2 < k0 := Nat.lt_of_not_le fun q => absurd hs2 (by have : k0 ≤ 2 := q; intro hh; rw [Int32.lt_iff_toInt_lt, Int32.toInt_ofNat_small (by omega), show (2 : Int32).toInt = 2 from rfl] at hh; omega)
      obtain ⟨c1, A1, l1⟩ := I29
      have hin : ¬ ((2 : Int32) < 0 ∨ c1.slots.size ≤ (2 : Int32).toNatClampNeg) := by rw [size_of_list l1, show (2 : Int32).toNatClampNeg = 2 from rfl]; simp only [List.length_set, List.length_replicate]; exact fun q => q.elim (by decide) (Nat.not_le.mpr hlt)
      have pre35 : Goes p e below s₁ (entryFrame m #[(.int p1), (.int p2), (.long q3), (.long q4)] maxLocals) T29 (mkF m 73 #[.val (.int p1), .val (.int p2), .val (.long q3), .second, .val (.long q4), .second, .val (.int (Int32.ofNat k0)), .val (.int b0_), .val (.int b1_), .val (.int b2_), .val (.int b3_), .val (.ref b22), .unset, .unset, .unset, .unset, .unset, .unset] [(.int b2_), (.int (2 : Int32)), (.ref b22)]) := fun t k => pre33 t (by
          refine XS.icmpNo X29.here hx rfl (hb hby at_65) rfl (tlt hs2).2.2.2 ?_
          show Steps p.tables e below (T29.setTop (mkF m 68 #[.val (.int p1), .val (.int p2), .val (.long q3), .second, .val (.long q4), .second, .val (.int (Int32.ofNat k0)), .val (.int b0_), .val (.int b1_), .val (.int b2_), .val (.int b3_), .val (.ref b22), .unset, .unset, .unset, .unset, .unset, .unset] [])) _
          refine XS.aload X29.here hx rfl (hb hby at_68) rfl rfl ?_
          show Steps p.tables e below (T29.setTop (mkF m 70 #[.val (.int p1), .val (.int p2), .val (.long q3), .second, .val (.long q4), .second, .val (.int (Int32.ofNat k0)), .val (.int b0_), .val (.int b1_), .val (.int b2_), .val (.int b3_), .val (.ref b22), .unset, .unset, .unset, .unset, .unset, .unset] [(.ref b22)])) _
          refine XS.iconst X29.here hx rfl (hb hby at_70) ?_
          show Steps p.tables e below (T29.setTop (mkF m 71 #[.val (.int p1), .val (.int p2), .val (.long q3), .second, .val (.long q4), .second, .val (.int (Int32.ofNat k0)), .val (.int b0_), .val (.int b1_), .val (.int b2_), .val (.int b3_), .val (.ref b22), .unset, .unset, .unset, .unset, .unset, .unset] [(.int (2 : Int32)), (.ref b22)])) _
          refine XS.iload X29.here hx rfl (hb hby at_71) rfl ?_
          show Steps p.tables e below (T29.setTop (mkF m 73 #[.val (.int p1), .val (.int p2), .val (.long q3), .second, .val (.long q4), .second, .val (.int (Int32.ofNat k0)), .val (.int b0_), .val (.int b1_), .val (.int b2_), .val (.int b3_), .val (.ref b22), .unset, .unset, .unset, .unset, .unset, .unset] [(.int b2_), (.int (2 : Int32)), (.ref b22)])) _
          exact k)
      obtain ⟨T36, h36, X36, e36, W36, st36⟩ := stB X29 hx hZ e29 A1 (j := (2 : Int32)) hin (g := (mkF m 73 #[.val (.int p1), .val (.int p2), .val (.long q3), .second, .val (.long q4), .second, .val (.int (Int32.ofNat k0)), .val (.int b0_), .val (.int b1_), .val (.int b2_), .val (.int b3_), .val (.ref b22), .unset, .unset, .unset, .unset, .unset, .unset] [(.int b2_), (.int (2 : Int32)), (.ref b22)])) rfl rfl (hb hby at_73)
      have N36 := Fr.snoc X36 N29 gi
      have pre36 : Goes p e below s₁ (entryFrame m #[(.int p1), (.int p2), (.long q3), (.long q4)] maxLocals) T36 (mkF m 74 #[.val (.int p1), .val (.int p2), .val (.long q3), .second, .val (.long q4), .second, .val (.int (Int32.ofNat k0)), .val (.int b0_), .val (.int b1_), .val (.int b2_), .val (.int b3_), .val (.ref b22), .unset, .unset, .unset, .unset, .unset, .unset] []) := fun t k => pre35 t (st36 _ k)
      have W36' := W36
      rw [show nar .byte b2_ = b2_ from B2.1] at W36'
      exact ⟨_, _, _, X36, e36, N36, W36.size ▸ z29, Iw.setI ⟨c1, A1, l1⟩ W36', pre36⟩
    · skip
      have pre37 : Goes p e below s₁ (entryFrame m #[(.int p1), (.int p2), (.long q3), (.long q4)] maxLocals) T29 (mkF m 74 #[.val (.int p1), .val (.int p2), .val (.long q3), .second, .val (.long q4), .second, .val (.int (Int32.ofNat k0)), .val (.int b0_), .val (.int b1_), .val (.int b2_), .val (.int b3_), .val (.ref b22), .unset, .unset, .unset, .unset, .unset, .unset] []) := fun t k => pre33 t (by
          refine XS.icmpYes X29.here hx rfl (pc0 := 65) (pc' := 74) rfl (hb hby at_65) rfl (flt hs2).2.2.2 (by decide) (by decide) ?_
          show Steps p.tables e below (T29.setTop (mkF m 74 #[.val (.int p1), .val (.int p2), .val (.long q3), .second, .val (.long q4), .second, .val (.int (Int32.ofNat k0)), .val (.int b0_), .val (.int b1_), .val (.int b2_), .val (.int b3_), .val (.ref b22), .unset, .unset, .unset, .unset, .unset, .unset] [])) _
          exact k)
      have hge : k0 ≤ 2 := Nat.le_of_not_lt fun q => hs2 (own_ofNat (i := 2) q (by omega))
      have hno : ((((List.replicate k0 (0 : Int32)).set 0 b0_).set 1 b1_).set 2 b2_) = (((List.replicate k0 (0 : Int32)).set 0 b0_).set 1 b1_) := List.set_eq_of_length_le (by simp only [List.length_set, List.length_replicate]; exact hge)
      exact ⟨_, _, _, X29, e29, N29, z29, by rw [hno]; exact I29, pre37⟩
  have pre38 : Goes p e below s₁ (entryFrame m #[(.int p1), (.int p2), (.long q3), (.long q4)] maxLocals) T34 (mkF m 77 #[.val (.int p1), .val (.int p2), .val (.long q3), .second, .val (.long q4), .second, .val (.int (Int32.ofNat k0)), .val (.int b0_), .val (.int b1_), .val (.int b2_), .val (.int b3_), .val (.ref b22), .unset, .unset, .unset, .unset, .unset, .unset] [(.int (3 : Int32)), (.int (Int32.ofNat k0))]) := fun t k => pre34 t (by
      refine XS.iload X34.here hx rfl (hb hby at_74) rfl ?_
      show Steps p.tables e below (T34.setTop (mkF m 76 #[.val (.int p1), .val (.int p2), .val (.long q3), .second, .val (.long q4), .second, .val (.int (Int32.ofNat k0)), .val (.int b0_), .val (.int b1_), .val (.int b2_), .val (.int b3_), .val (.ref b22), .unset, .unset, .unset, .unset, .unset, .unset] [(.int (Int32.ofNat k0))])) _
      refine XS.iconst X34.here hx rfl (hb hby at_76) ?_
      show Steps p.tables e below (T34.setTop (mkF m 77 #[.val (.int p1), .val (.int p2), .val (.long q3), .second, .val (.long q4), .second, .val (.int (Int32.ofNat k0)), .val (.int b0_), .val (.int b1_), .val (.int b2_), .val (.int b3_), .val (.ref b22), .unset, .unset, .unset, .unset, .unset, .unset] [(.int (3 : Int32)), (.int (Int32.ofNat k0))])) _
      exact k)
  obtain ⟨T39, h39, L39, X39, e39, N39, z39, I39, pre39⟩ : ∃ (T' : State) (h' : Heap) (L' : List Loc), Stand p l e room_1 s m #[(.int p1), (.int p2), (.long q3), (.long q4)] below meth c T' L' 1 4 ∧ T'.heap = h' ∧ Fr n0 L' ∧ h0.size ≤ h'.size ∧ Iw Z h' b22 .byte ((((((List.replicate k0 (0 : Int32)).set 0 b0_).set 1 b1_).set 2 b2_).set 3 b3_).map Value.int) ∧ Goes p e below s₁ (entryFrame m #[(.int p1), (.int p2), (.long q3), (.long q4)] maxLocals) T' (mkF m 86 #[.val (.int p1), .val (.int p2), .val (.long q3), .second, .val (.long q4), .second, .val (.int (Int32.ofNat k0)), .val (.int b0_), .val (.int b1_), .val (.int b2_), .val (.int b3_), .val (.ref b22), .unset, .unset, .unset, .unset, .unset, .unset] []) := by
    by_cases hs3 : (3 : Int32) < (Int32.ofNat k0)
    · skip
      have hlt : 3 < k0 := Nat.lt_of_not_le fun q => absurd hs3 (by have : k0 ≤ 3 := q; intro hh; rw [Int32.lt_iff_toInt_lt, Int32.toInt_ofNat_small (by omega), show (3 : Int32).toInt = 3 from rfl] at hh; omega)
      obtain ⟨c1, A1, l1⟩ := I34
      have hin : ¬ ((3 : Int32) < 0 ∨ c1.slots.size ≤ (3 : Int32).toNatClampNeg) := by rw [size_of_list l1, show (3 : Int32).toNatClampNeg = 3 from rfl]; simp only [List.length_set, List.length_replicate]; exact fun q => q.elim (by decide) (Nat.not_le.mpr hlt)
      have pre40 : Goes p e below s₁ (entryFrame m #[(.int p1), (.int p2), (.long q3), (.long q4)] maxLocals) T34 (mkF m 85 #[.val (.int p1), .val (.int p2), .val (.long q3), .second, .val (.long q4), .second, .val (.int (Int32.ofNat k0)), .val (.int b0_), .val (.int b1_), .val (.int b2_), .val (.int b3_), .val (.ref b22), .unset, .unset, .unset, .unset, .unset, .unset] [(.int b3_), (.int (3 : Int32)), (.ref b22)]) := fun t k => pre38 t (by
          refine XS.icmpNo X34.here hx rfl (hb hby at_77) rfl (tlt hs3).2.2.2 ?_
          show Steps p.tables e below (T34.setTop (mkF m 80 #[.val (.int p1), .val (.int p2), .val (.long q3), .second, .val (.long q4), .second, .val (.int (Int32.ofNat k0)), .val (.int b0_), .val (.int b1_), .val (.int b2_), .val (.int b3_), .val (.ref b22), .unset, .unset, .unset, .unset, .unset, .unset] [])) _
          refine XS.aload X34.here hx rfl (hb hby at_80) rfl rfl ?_
          show Steps p.tables e below (T34.setTop (mkF m 82 #[.val (.int p1), .val (.int p2), .val (.long q3), .second, .val (.long q4), .second, .val (.int (Int32.ofNat k0)), .val (.int b0_), .val (.int b1_), .val (.int b2_), .val (.int b3_), .val (.ref b22), .unset, .unset, .unset, .unset, .unset, .unset] [(.ref b22)])) _
          refine XS.iconst X34.here hx rfl (hb hby at_82) ?_
          show Steps p.tables e below (T34.setTop (mkF m 83 #[.val (.int p1), .val (.int p2), .val (.long q3), .second, .val (.long q4), .second, .val (.int (Int32.ofNat k0)), .val (.int b0_), .val (.int b1_), .val (.int b2_), .val (.int b3_), .val (.ref b22), .unset, .unset, .unset, .unset, .unset, .unset] [(.int (3 : Int32)), (.ref b22)])) _
          refine XS.iload X34.here hx rfl (hb hby at_83) rfl ?_
          show Steps p.tables e below (T34.setTop (mkF m 85 #[.val (.int p1), .val (.int p2), .val (.long q3), .second, .val (.long q4), .second, .val (.int (Int32.ofNat k0)), .val (.int b0_), .val (.int b1_), .val (.int b2_), .val (.int b3_), .val (.ref b22), .unset, .unset, .unset, .unset, .unset, .unset] [(.int b3_), (.int (3 : Int32)), (.ref b22)])) _
          exact k)
      obtain ⟨T41, h41, X41, e41, W41, st41⟩ := stB X34 hx hZ e34 A1 (j := (3 : Int32)) hin (g := (mkF m 85 #[.val (.int p1), .val (.int p2), .val (.long q3), .second, .val (.long q4), .second, .val (.int (Int32.ofNat k0)), .val (.int b0_), .val (.int b1_), .val (.int b2_), .val (.int b3_), .val (.ref b22), .unset, .unset, .unset, .unset, .unset, .unset] [(.int b3_), (.int (3 : Int32)), (.ref b22)])) rfl rfl (hb hby at_85)
      have N41 := Fr.snoc X41 N34 gi
      have pre41 : Goes p e below s₁ (entryFrame m #[(.int p1), (.int p2), (.long q3), (.long q4)] maxLocals) T41 (mkF m 86 #[.val (.int p1), .val (.int p2), .val (.long q3), .second, .val (.long q4), .second, .val (.int (Int32.ofNat k0)), .val (.int b0_), .val (.int b1_), .val (.int b2_), .val (.int b3_), .val (.ref b22), .unset, .unset, .unset, .unset, .unset, .unset] []) := fun t k => pre40 t (st41 _ k)
      have W41' := W41
      rw [show nar .byte b3_ = b3_ from B3.1] at W41'
      exact ⟨_, _, _, X41, e41, N41, W41.size ▸ z34, Iw.setI ⟨c1, A1, l1⟩ W41', pre41⟩
    · skip
      have pre42 : Goes p e below s₁ (entryFrame m #[(.int p1), (.int p2), (.long q3), (.long q4)] maxLocals) T34 (mkF m 86 #[.val (.int p1), .val (.int p2), .val (.long q3), .second, .val (.long q4), .second, .val (.int (Int32.ofNat k0)), .val (.int b0_), .val (.int b1_), .val (.int b2_), .val (.int b3_), .val (.ref b22), .unset, .unset, .unset, .unset, .unset, .unset] []) := fun t k => pre38 t (by
          refine XS.icmpYes X34.here hx rfl (pc0 := 77) (pc' := 86) rfl (hb hby at_77) rfl (flt hs3).2.2.2 (by decide) (by decide) ?_
          show Steps p.tables e below (T34.setTop (mkF m 86 #[.val (.int p1), .val (.int p2), .val (.long q3), .second, .val (.long q4), .second, .val (.int (Int32.ofNat k0)), .val (.int b0_), .val (.int b1_), .val (.int b2_), .val (.int b3_), .val (.ref b22), .unset, .unset, .unset, .unset, .unset, .unset] [])) _
          exact k)
      have hge : k0 ≤ 3 := Nat.le_of_not_lt fun q => hs3 (own_ofNat (i := 3) q (by omega))
      have hno : (((((List.replicate k0 (0 : Int32)).set 0 b0_).set 1 b1_).set 2 b2_).set 3 b3_) = ((((List.replicate k0 (0 : Int32)).set 0 b0_).set 1 b1_).set 2 b2_) := List.set_eq_of_length_le (by simp only [List.length_set, List.length_replicate]; exact hge)
      exact ⟨_, _, _, X34, e34, N34, z34, by rw [hno]; exact I34, pre42⟩
  have pre43 : Goes p e below s₁ (entryFrame m #[(.int p1), (.int p2), (.long q3), (.long q4)] maxLocals) T39 (mkF m 87 #[.val (.int p1), .val (.int p2), .val (.long q3), .second, .val (.long q4), .second, .val (.int (Int32.ofNat k0)), .val (.int b0_), .val (.int b1_), .val (.int b2_), .val (.int b3_), .val (.ref b22), .unset, .unset, .unset, .unset, .unset, .unset] [(.int (2 : Int32))]) := fun t k => pre39 t (by
      refine XS.iconst X39.here hx rfl (hb hby at_86) ?_
      show Steps p.tables e below (T39.setTop (mkF m 87 #[.val (.int p1), .val (.int p2), .val (.long q3), .second, .val (.long q4), .second, .val (.int (Int32.ofNat k0)), .val (.int b0_), .val (.int b1_), .val (.int b2_), .val (.int b3_), .val (.ref b22), .unset, .unset, .unset, .unset, .unset, .unset] [(.int (2 : Int32))])) _
      exact k)
  obtain ⟨T44, h44, k44, X44, e44, E44, A44, st44⟩ := newP X39 hx hZ (hw _ (List.mem_of_getElem? (i := 2) rfl)) e39 (g := (mkF m 87 #[.val (.int p1), .val (.int p2), .val (.long q3), .second, .val (.long q4), .second, .val (.int (Int32.ofNat k0)), .val (.int b0_), .val (.int b1_), .val (.int b2_), .val (.int b3_), .val (.ref b22), .unset, .unset, .unset, .unset, .unset, .unset] [(.int (2 : Int32))])) rfl (hb hby at_87) rfl (by decide) (cap := 2) (by decide) (by decide) (by decide) (by decide)
  obtain ⟨b44, g44⟩ : ∃ z, z = h39.size := ⟨_, rfl⟩
  rw [← g44] at A44 st44
  have pre44 : Goes p e below s₁ (entryFrame m #[(.int p1), (.int p2), (.long q3), (.long q4)] maxLocals) T44 (mkF m 89 #[.val (.int p1), .val (.int p2), .val (.long q3), .second, .val (.long q4), .second, .val (.int (Int32.ofNat k0)), .val (.int b0_), .val (.int b1_), .val (.int b2_), .val (.int b3_), .val (.ref b22), .unset, .unset, .unset, .unset, .unset, .unset] [(.ref b44)]) := fun t k => pre43 t (st44 _ k)
  have J0 : Iw Z h44 b44 .long (([0, 0] : List Int64).map Value.long) := ⟨_, A44, by simp [newA]; rfl⟩
  have gj : n0 ≤ b44 := Nat.le_trans (Nat.le_trans Z0 z39) (Nat.le_of_eq g44.symm)
  have nij : b22 ≠ b44 := Nat.ne_of_lt (Nat.lt_of_lt_of_le I39.lt (Nat.le_of_eq g44.symm))
  have za : h0.size ≤ h44.size := Nat.le_trans z39 E44.1
  have Ia := I39.ext E44
  obtain ⟨d0, D0, m0⟩ := J0
  have pre45 : Goes p e below s₁ (entryFrame m #[(.int p1), (.int p2), (.long q3), (.long q4)] maxLocals) T44 (mkF m 92 #[.val (.int p1), .val (.int p2), .val (.long q3), .second, .val (.long q4), .second, .val (.int (Int32.ofNat k0)), .val (.int b0_), .val (.int b1_), .val (.int b2_), .val (.int b3_), .val (.ref b22), .unset, .unset, .unset, .unset, .unset, .unset] [(.long q3), (.int (0 : Int32)), (.ref b44), (.ref b44)]) := fun t k => pre44 t (by
      refine XS.dup X44.here hx rfl (hb hby at_89) rfl rfl ?_
      show Steps p.tables e below (T44.setTop (mkF m 90 #[.val (.int p1), .val (.int p2), .val (.long q3), .second, .val (.long q4), .second, .val (.int (Int32.ofNat k0)), .val (.int b0_), .val (.int b1_), .val (.int b2_), .val (.int b3_), .val (.ref b22), .unset, .unset, .unset, .unset, .unset, .unset] [(.ref b44), (.ref b44)])) _
      refine XS.iconst X44.here hx rfl (hb hby at_90) ?_
      show Steps p.tables e below (T44.setTop (mkF m 91 #[.val (.int p1), .val (.int p2), .val (.long q3), .second, .val (.long q4), .second, .val (.int (Int32.ofNat k0)), .val (.int b0_), .val (.int b1_), .val (.int b2_), .val (.int b3_), .val (.ref b22), .unset, .unset, .unset, .unset, .unset, .unset] [(.int (0 : Int32)), (.ref b44), (.ref b44)])) _
      refine XS.lloadN X44.here hx rfl (hb hby at_91) rfl ?_
      show Steps p.tables e below (T44.setTop (mkF m 92 #[.val (.int p1), .val (.int p2), .val (.long q3), .second, .val (.long q4), .second, .val (.int (Int32.ofNat k0)), .val (.int b0_), .val (.int b1_), .val (.int b2_), .val (.int b3_), .val (.ref b22), .unset, .unset, .unset, .unset, .unset, .unset] [(.long q3), (.int (0 : Int32)), (.ref b44), (.ref b44)])) _
      exact k)
  obtain ⟨T46, h46, X46, e46, W46, st46⟩ := stJ X44 hx hZ e44 D0 (j := (0 : Int32)) (by rw [own_sizeJ m0]; (try simp only [List.length_set]); exact (by decide : ¬ ((0 : Int32) < 0 ∨ 2 ≤ (0 : Int32).toNatClampNeg))) (g := (mkF m 92 #[.val (.int p1), .val (.int p2), .val (.long q3), .second, .val (.long q4), .second, .val (.int (Int32.ofNat k0)), .val (.int b0_), .val (.int b1_), .val (.int b2_), .val (.int b3_), .val (.ref b22), .unset, .unset, .unset, .unset, .unset, .unset] [(.long q3), (.int (0 : Int32)), (.ref b44), (.ref b44)])) rfl rfl (hb hby at_92)
  have N46 := Fr.snoc X46 N39 gj
  have pre46 : Goes p e below s₁ (entryFrame m #[(.int p1), (.int p2), (.long q3), (.long q4)] maxLocals) T46 (mkF m 93 #[.val (.int p1), .val (.int p2), .val (.long q3), .second, .val (.long q4), .second, .val (.int (Int32.ofNat k0)), .val (.int b0_), .val (.int b1_), .val (.int b2_), .val (.int b3_), .val (.ref b22), .unset, .unset, .unset, .unset, .unset, .unset] [(.ref b44)]) := fun t k => pre45 t (st46 _ k)
  have J1 := Iw.setJ ⟨d0, D0, m0⟩ W46
  have za : h0.size ≤ h46.size := W46.size ▸ za
  have Ia := Ia.other W46 nij
  obtain ⟨d1, D1, m1⟩ := J1
  have pre47 : Goes p e below s₁ (entryFrame m #[(.int p1), (.int p2), (.long q3), (.long q4)] maxLocals) T46 (mkF m 97 #[.val (.int p1), .val (.int p2), .val (.long q3), .second, .val (.long q4), .second, .val (.int (Int32.ofNat k0)), .val (.int b0_), .val (.int b1_), .val (.int b2_), .val (.int b3_), .val (.ref b22), .unset, .unset, .unset, .unset, .unset, .unset] [(.long q4), (.int (1 : Int32)), (.ref b44), (.ref b44)]) := fun t k => pre46 t (by
      refine XS.dup X46.here hx rfl (hb hby at_93) rfl rfl ?_
      show Steps p.tables e below (T46.setTop (mkF m 94 #[.val (.int p1), .val (.int p2), .val (.long q3), .second, .val (.long q4), .second, .val (.int (Int32.ofNat k0)), .val (.int b0_), .val (.int b1_), .val (.int b2_), .val (.int b3_), .val (.ref b22), .unset, .unset, .unset, .unset, .unset, .unset] [(.ref b44), (.ref b44)])) _
      refine XS.iconst X46.here hx rfl (hb hby at_94) ?_
      show Steps p.tables e below (T46.setTop (mkF m 95 #[.val (.int p1), .val (.int p2), .val (.long q3), .second, .val (.long q4), .second, .val (.int (Int32.ofNat k0)), .val (.int b0_), .val (.int b1_), .val (.int b2_), .val (.int b3_), .val (.ref b22), .unset, .unset, .unset, .unset, .unset, .unset] [(.int (1 : Int32)), (.ref b44), (.ref b44)])) _
      refine XS.lload X46.here hx rfl (hb hby at_95) rfl ?_
      show Steps p.tables e below (T46.setTop (mkF m 97 #[.val (.int p1), .val (.int p2), .val (.long q3), .second, .val (.long q4), .second, .val (.int (Int32.ofNat k0)), .val (.int b0_), .val (.int b1_), .val (.int b2_), .val (.int b3_), .val (.ref b22), .unset, .unset, .unset, .unset, .unset, .unset] [(.long q4), (.int (1 : Int32)), (.ref b44), (.ref b44)])) _
      exact k)
  obtain ⟨T48, h48, X48, e48, W48, st48⟩ := stJ X46 hx hZ e46 D1 (j := (1 : Int32)) (by rw [own_sizeJ m1]; (try simp only [List.length_set]); exact (by decide : ¬ ((1 : Int32) < 0 ∨ 2 ≤ (1 : Int32).toNatClampNeg))) (g := (mkF m 97 #[.val (.int p1), .val (.int p2), .val (.long q3), .second, .val (.long q4), .second, .val (.int (Int32.ofNat k0)), .val (.int b0_), .val (.int b1_), .val (.int b2_), .val (.int b3_), .val (.ref b22), .unset, .unset, .unset, .unset, .unset, .unset] [(.long q4), (.int (1 : Int32)), (.ref b44), (.ref b44)])) rfl rfl (hb hby at_97)
  have N48 := Fr.snoc X48 N46 gj
  have pre48 : Goes p e below s₁ (entryFrame m #[(.int p1), (.int p2), (.long q3), (.long q4)] maxLocals) T48 (mkF m 98 #[.val (.int p1), .val (.int p2), .val (.long q3), .second, .val (.long q4), .second, .val (.int (Int32.ofNat k0)), .val (.int b0_), .val (.int b1_), .val (.int b2_), .val (.int b3_), .val (.ref b22), .unset, .unset, .unset, .unset, .unset, .unset] [(.ref b44)]) := fun t k => pre47 t (st48 _ k)
  have J2 := Iw.setJ ⟨d1, D1, m1⟩ W48
  have za : h0.size ≤ h48.size := W48.size ▸ za
  have Ia := Ia.other W48 nij
  have J3 : Iw Z h48 b44 .long (([q3, q4] : List Int64).map Value.long) := J2
  have Zm : n0 ≤ h48.size := Nat.le_trans Z0 za
  have hle : ((((((List.replicate k0 (0 : Int32)).set 0 b0_).set 1 b1_).set 2 b2_).set 3 b3_)).length < 1000 := by simp only [List.length_set, List.length_replicate]; omega
  have hby2 : ∀ b ∈ (((((List.replicate k0 (0 : Int32)).set 0 b0_).set 1 b1_).set 2 b2_).set 3 b3_), ¬ b < 0 → in2 (ixA b) := by
    intro b hb
    rw [show (((((List.replicate k0 (0 : Int32)).set 0 b0_).set 1 b1_).set 2 b2_).set 3 b3_) = [b0_, b1_, b2_, b3_].take k0 from own_bytes hk0 b0_ b1_ b2_ b3_] at hb
    have hb' := List.mem_of_mem_take hb
    simp only [List.mem_cons, List.not_mem_nil, or_false] at hb'
    rcases hb' with rfl | rfl | rfl | rfl
    · exact own_in2 B0
    · exact own_in2 B1
    · exact own_in2 B2
    · exact own_in2 B3
  have pre49 : Goes p e below s₁ (entryFrame m #[(.int p1), (.int p2), (.long q3), (.long q4)] maxLocals) T48 (mkF m 104 #[.val (.int p1), .val (.int p2), .val (.long q3), .second, .val (.long q4), .second, .val (.int (Int32.ofNat k0)), .val (.int b0_), .val (.int b1_), .val (.int b2_), .val (.int b3_), .val (.ref b22), .val (.ref b44), .unset, .unset, .unset, .unset, .unset] [(.ref b44), (.ref b22)]) := fun t k => pre48 t (by
      refine XS.astore X48.here hx rfl (hb hby at_98) rfl rfl (l' := #[.val (.int p1), .val (.int p2), .val (.long q3), .second, .val (.long q4), .second, .val (.int (Int32.ofNat k0)), .val (.int b0_), .val (.int b1_), .val (.int b2_), .val (.int b3_), .val (.ref b22), .val (.ref b44), .unset, .unset, .unset, .unset, .unset]) rfl ?_
      show Steps p.tables e below (T48.setTop (mkF m 100 #[.val (.int p1), .val (.int p2), .val (.long q3), .second, .val (.long q4), .second, .val (.int (Int32.ofNat k0)), .val (.int b0_), .val (.int b1_), .val (.int b2_), .val (.int b3_), .val (.ref b22), .val (.ref b44), .unset, .unset, .unset, .unset, .unset] [])) _
      refine XS.aload X48.here hx rfl (hb hby at_100) rfl rfl ?_
      show Steps p.tables e below (T48.setTop (mkF m 102 #[.val (.int p1), .val (.int p2), .val (.long q3), .second, .val (.long q4), .second, .val (.int (Int32.ofNat k0)), .val (.int b0_), .val (.int b1_), .val (.int b2_), .val (.int b3_), .val (.ref b22), .val (.ref b44), .unset, .unset, .unset, .unset, .unset] [(.ref b22)])) _
      refine XS.aload X48.here hx rfl (hb hby at_102) rfl rfl ?_
      show Steps p.tables e below (T48.setTop (mkF m 104 #[.val (.int p1), .val (.int p2), .val (.long q3), .second, .val (.long q4), .second, .val (.int (Int32.ofNat k0)), .val (.int b0_), .val (.int b1_), .val (.int b2_), .val (.int b3_), .val (.ref b22), .val (.ref b44), .unset, .unset, .unset, .unset, .unset] [(.ref b44), (.ref b22)])) _
      exact k)
  obtain ⟨_, _, ⟨T50, L50, k50, n50⟩, -, X50, ⟨Lc50, hQ50, l50, y50, z50⟩, st50⟩ := Jvm.LawKit.callS X48 hx (y := (⟨"com/example/sluice/sluice/engine/OrderedUsers$Gathered", "mark", "([B[J)V"⟩ : MethodName)) hown (mvT hZ (hw _ (List.mem_of_getElem? (i := 3) rfl))) (mvT hZ (hw _ (List.mem_of_getElem? (i := 4) rfl))) (mvT hZ (hw _ (List.mem_of_getElem? (i := 5) rfl))) (mvT hZ (hw _ (List.mem_of_getElem? (i := 6) rfl))) (by decide) (backOf (W := 0) (rmm l Z a0 hw [] b22 b44 (((((List.replicate k0 (0 : Int32)).set 0 b0_).set 1 b1_).set 2 b2_).set 3 b3_) [q3, q4] h48 n0 Zm Ia J3 nij rfl hle hby2 gj) hZ (hw _ (List.mem_of_getElem? (i := 6) rfl)) (hw _ (List.mem_of_getElem? (i := 5) rfl)) (by decide) (by decide)) (g := (mkF m 104 #[.val (.int p1), .val (.int p2), .val (.long q3), .second, .val (.long q4), .second, .val (.int (Int32.ofNat k0)), .val (.int b0_), .val (.int b1_), .val (.int b2_), .val (.int b3_), .val (.ref b22), .val (.ref b44), .unset, .unset, .unset, .unset, .unset] [(.ref b44), (.ref b22)])) rfl (by rw [hml]; rfl) (argsL := [(.ref b22), (.ref b44)]) (rest := []) (lenOf pd_0 rfl) rfl (by show 2 * 0 + _ ≤ _; exact Nat.le_of_eq rfl) (hb hby at_104) (fun _ _ => ⟨rfl, e48, (by decide : 2 + 0 ≤ _), (by decide : 6 + 0 ≤ _)⟩)
  dsimp only [Pt.U, Pt.locs, Pt.cells, Pt.slots] at X50 l50 y50 z50 st50 hQ50
  subst l50 y50 z50
  obtain ⟨rfl, N50q, eh50⟩ := hQ50
  have N50 := Fr.app N48 N50q
  have pre50 : Goes p e below s₁ (entryFrame m #[(.int p1), (.int p2), (.long q3), (.long q4)] maxLocals) T50 (mkF m 107 #[.val (.int p1), .val (.int p2), .val (.long q3), .second, .val (.long q4), .second, .val (.int (Int32.ofNat k0)), .val (.int b0_), .val (.int b1_), .val (.int b2_), .val (.int b3_), .val (.ref b22), .val (.ref b44), .unset, .unset, .unset, .unset, .unset] []) := fun t k => pre49 t (st50 _ k)
  obtain ⟨zb, Ib, Jb⟩ := eh50
  have Zb : n0 ≤ T50.heap.size := Nat.le_trans Zm zb
  obtain ⟨c1, A1, l1⟩ := Ib
  obtain ⟨c2, A2, l2⟩ := Jb
  have pre51 : Goes p e below s₁ (entryFrame m #[(.int p1), (.int p2), (.long q3), (.long q4)] maxLocals) T50 (mkF m 116 #[.val (.int p1), .val (.int p2), .val (.long q3), .second, .val (.long q4), .second, .val (.int (Int32.ofNat k0)), .val (.int b0_), .val (.int b1_), .val (.int b2_), .val (.int b3_), .val (.ref b22), .val (.ref b44), .val (.long q3), .second, .val (.long q4), .second, .unset] [(.int (Int32.ofNat k0))]) := fun t k => pre50 t (by
      refine XS.lloadN X50.here hx rfl (hb hby at_107) rfl ?_
      show Steps p.tables e below (T50.setTop (mkF m 108 #[.val (.int p1), .val (.int p2), .val (.long q3), .second, .val (.long q4), .second, .val (.int (Int32.ofNat k0)), .val (.int b0_), .val (.int b1_), .val (.int b2_), .val (.int b3_), .val (.ref b22), .val (.ref b44), .unset, .unset, .unset, .unset, .unset] [(.long q3)])) _
      refine XS.lstore X50.here hx rfl (hb hby at_108) rfl (l' := #[.val (.int p1), .val (.int p2), .val (.long q3), .second, .val (.long q4), .second, .val (.int (Int32.ofNat k0)), .val (.int b0_), .val (.int b1_), .val (.int b2_), .val (.int b3_), .val (.ref b22), .val (.ref b44), .val (.long q3), .second, .unset, .unset, .unset]) rfl ?_
      show Steps p.tables e below (T50.setTop (mkF m 110 #[.val (.int p1), .val (.int p2), .val (.long q3), .second, .val (.long q4), .second, .val (.int (Int32.ofNat k0)), .val (.int b0_), .val (.int b1_), .val (.int b2_), .val (.int b3_), .val (.ref b22), .val (.ref b44), .val (.long q3), .second, .unset, .unset, .unset] [])) _
      refine XS.lload X50.here hx rfl (hb hby at_110) rfl ?_
      show Steps p.tables e below (T50.setTop (mkF m 112 #[.val (.int p1), .val (.int p2), .val (.long q3), .second, .val (.long q4), .second, .val (.int (Int32.ofNat k0)), .val (.int b0_), .val (.int b1_), .val (.int b2_), .val (.int b3_), .val (.ref b22), .val (.ref b44), .val (.long q3), .second, .unset, .unset, .unset] [(.long q4)])) _
      refine XS.lstore X50.here hx rfl (hb hby at_112) rfl (l' := #[.val (.int p1), .val (.int p2), .val (.long q3), .second, .val (.long q4), .second, .val (.int (Int32.ofNat k0)), .val (.int b0_), .val (.int b1_), .val (.int b2_), .val (.int b3_), .val (.ref b22), .val (.ref b44), .val (.long q3), .second, .val (.long q4), .second, .unset]) rfl ?_
      show Steps p.tables e below (T50.setTop (mkF m 114 #[.val (.int p1), .val (.int p2), .val (.long q3), .second, .val (.long q4), .second, .val (.int (Int32.ofNat k0)), .val (.int b0_), .val (.int b1_), .val (.int b2_), .val (.int b3_), .val (.ref b22), .val (.ref b44), .val (.long q3), .second, .val (.long q4), .second, .unset] [])) _
      refine XS.iload X50.here hx rfl (hb hby at_114) rfl ?_
      show Steps p.tables e below (T50.setTop (mkF m 116 #[.val (.int p1), .val (.int p2), .val (.long q3), .second, .val (.long q4), .second, .val (.int (Int32.ofNat k0)), .val (.int b0_), .val (.int b1_), .val (.int b2_), .val (.int b3_), .val (.ref b22), .val (.ref b44), .val (.long q3), .second, .val (.long q4), .second, .unset] [(.int (Int32.ofNat k0))])) _
      exact k)
  obtain ⟨T52, L52, X52, e52, N52, pre52⟩ : ∃ (T' : State) (L' : List Loc), Stand p l e room_1 s m #[(.int p1), (.int p2), (.long q3), (.long q4)] below meth c T' L' 2 6 ∧ T'.heap = T50.heap ∧ Fr n0 L' ∧ Goes p e below s₁ (entryFrame m #[(.int p1), (.int p2), (.long q3), (.long q4)] maxLocals) T' (mkF m 139 #[.val (.int p1), .val (.int p2), .val (.long q3), .second, .val (.long q4), .second, .val (.int (Int32.ofNat k0)), .val (.int b0_), .val (.int b1_), .val (.int b2_), .val (.int b3_), .val (.ref b22), .val (.ref b44), .val (.long (accA 0 k0 q3 (lowA b0_))), .second, .val (.long (accA 0 k0 q4 (highA b0_))), .second, .unset] []) := by
    by_cases ht0 : (0 : Int32) < (Int32.ofNat k0)
    · skip
      rw [show (accA 0 k0 q3 (lowA b0_)) = q3 ||| lowA b0_ from if_pos ht0, show (accA 0 k0 q4 (highA b0_)) = q4 ||| highA b0_ from if_pos ht0]
      have pre53 : Goes p e below s₁ (entryFrame m #[(.int p1), (.int p2), (.long q3), (.long q4)] maxLocals) T50 (mkF m 123 #[.val (.int p1), .val (.int p2), .val (.long q3), .second, .val (.long q4), .second, .val (.int (Int32.ofNat k0)), .val (.int b0_), .val (.int b1_), .val (.int b2_), .val (.int b3_), .val (.ref b22), .val (.ref b44), .val (.long q3), .second, .val (.long q4), .second, .unset] [(.int b0_), (.long q3)]) := fun t k => pre51 t (by
          refine XS.ifNo X50.here hx rfl (hb hby at_116) rfl ((if0 _ _).trans (tlt ht0).2.2.2) ?_
          show Steps p.tables e below (T50.setTop (mkF m 119 #[.val (.int p1), .val (.int p2), .val (.long q3), .second, .val (.long q4), .second, .val (.int (Int32.ofNat k0)), .val (.int b0_), .val (.int b1_), .val (.int b2_), .val (.int b3_), .val (.ref b22), .val (.ref b44), .val (.long q3), .second, .val (.long q4), .second, .unset] [])) _
          refine XS.lload X50.here hx rfl (hb hby at_119) rfl ?_
          show Steps p.tables e below (T50.setTop (mkF m 121 #[.val (.int p1), .val (.int p2), .val (.long q3), .second, .val (.long q4), .second, .val (.int (Int32.ofNat k0)), .val (.int b0_), .val (.int b1_), .val (.int b2_), .val (.int b3_), .val (.ref b22), .val (.ref b44), .val (.long q3), .second, .val (.long q4), .second, .unset] [(.long q3)])) _
          refine XS.iload X50.here hx rfl (hb hby at_121) rfl ?_
          show Steps p.tables e below (T50.setTop (mkF m 123 #[.val (.int p1), .val (.int p2), .val (.long q3), .second, .val (.long q4), .second, .val (.int (Int32.ofNat k0)), .val (.int b0_), .val (.int b1_), .val (.int b2_), .val (.int b3_), .val (.ref b22), .val (.ref b44), .val (.long q3), .second, .val (.long q4), .second, .unset] [(.int b0_), (.long q3)])) _
          exact k)
      obtain ⟨_, _, ⟨T54, L54, k54, n54⟩, -, X54, ⟨Lc54, hQ54, l54, y54, z54⟩, st54⟩ := Jvm.LawKit.callS X50 hx (y := (⟨"com/example/sluice/sluice/engine/GatheredMarkPinLaw", "low", "(B)J"⟩ : MethodName)) hown (mvT hZ (hw _ (List.mem_of_getElem? (i := 7) rfl))) (mvT hZ (hw _ (List.mem_of_getElem? (i := 8) rfl))) (mvT hZ (hw _ (List.mem_of_getElem? (i := 9) rfl))) (mvT hZ (hw _ (List.mem_of_getElem? (i := 10) rfl))) (by decide) (backOf (W := 2) (rml l Z a0 hw [] b0_ T50.heap n0 Zb) hZ (hw _ (List.mem_of_getElem? (i := 10) rfl)) (hw _ (List.mem_of_getElem? (i := 9) rfl)) (by decide) (by decide)) (g := (mkF m 123 #[.val (.int p1), .val (.int p2), .val (.long q3), .second, .val (.long q4), .second, .val (.int (Int32.ofNat k0)), .val (.int b0_), .val (.int b1_), .val (.int b2_), .val (.int b3_), .val (.ref b22), .val (.ref b44), .val (.long q3), .second, .val (.long q4), .second, .unset] [(.int b0_), (.long q3)])) rfl (by rw [hml]; rfl) (argsL := [(.int b0_)]) (rest := [(.long q3)]) (lenOf pd_1 rfl) rfl (by show 2 * 0 + _ ≤ _; exact Nat.le_of_eq rfl) (hb hby at_123) (fun _ _ => ⟨rfl, rfl, (by decide : 2 + 0 ≤ _), (by decide : 6 + 0 ≤ _)⟩)
      dsimp only [Pt.U, Pt.locs, Pt.cells, Pt.slots] at X54 l54 y54 z54 st54 hQ54
      subst l54 y54 z54
      obtain ⟨rfl, N54q, eh54⟩ := hQ54
      have N54 := Fr.app N50 N54q
      have pre54 : Goes p e below s₁ (entryFrame m #[(.int p1), (.int p2), (.long q3), (.long q4)] maxLocals) T54 (mkF m 126 #[.val (.int p1), .val (.int p2), .val (.long q3), .second, .val (.long q4), .second, .val (.int (Int32.ofNat k0)), .val (.int b0_), .val (.int b1_), .val (.int b2_), .val (.int b3_), .val (.ref b22), .val (.ref b44), .val (.long q3), .second, .val (.long q4), .second, .unset] [(.long (lowA b0_)), (.long q3)]) := fun t k => pre53 t (st54 _ k)
      have pre55 : Goes p e below s₁ (entryFrame m #[(.int p1), (.int p2), (.long q3), (.long q4)] maxLocals) T54 (mkF m 133 #[.val (.int p1), .val (.int p2), .val (.long q3), .second, .val (.long q4), .second, .val (.int (Int32.ofNat k0)), .val (.int b0_), .val (.int b1_), .val (.int b2_), .val (.int b3_), .val (.ref b22), .val (.ref b44), .val (.long (q3 ||| (lowA b0_))), .second, .val (.long q4), .second, .unset] [(.int b0_), (.long q4)]) := fun t k => pre54 t (by
          refine XS.lor X54.here hx rfl (hb hby at_126) rfl ?_
          show Steps p.tables e below (T54.setTop (mkF m 127 #[.val (.int p1), .val (.int p2), .val (.long q3), .second, .val (.long q4), .second, .val (.int (Int32.ofNat k0)), .val (.int b0_), .val (.int b1_), .val (.int b2_), .val (.int b3_), .val (.ref b22), .val (.ref b44), .val (.long q3), .second, .val (.long q4), .second, .unset] [(.long (q3 ||| (lowA b0_)))])) _
          refine XS.lstore X54.here hx rfl (hb hby at_127) rfl (l' := #[.val (.int p1), .val (.int p2), .val (.long q3), .second, .val (.long q4), .second, .val (.int (Int32.ofNat k0)), .val (.int b0_), .val (.int b1_), .val (.int b2_), .val (.int b3_), .val (.ref b22), .val (.ref b44), .val (.long (q3 ||| (lowA b0_))), .second, .val (.long q4), .second, .unset]) rfl ?_
          show Steps p.tables e below (T54.setTop (mkF m 129 #[.val (.int p1), .val (.int p2), .val (.long q3), .second, .val (.long q4), .second, .val (.int (Int32.ofNat k0)), .val (.int b0_), .val (.int b1_), .val (.int b2_), .val (.int b3_), .val (.ref b22), .val (.ref b44), .val (.long (q3 ||| (lowA b0_))), .second, .val (.long q4), .second, .unset] [])) _
          refine XS.lload X54.here hx rfl (hb hby at_129) rfl ?_
          show Steps p.tables e below (T54.setTop (mkF m 131 #[.val (.int p1), .val (.int p2), .val (.long q3), .second, .val (.long q4), .second, .val (.int (Int32.ofNat k0)), .val (.int b0_), .val (.int b1_), .val (.int b2_), .val (.int b3_), .val (.ref b22), .val (.ref b44), .val (.long (q3 ||| (lowA b0_))), .second, .val (.long q4), .second, .unset] [(.long q4)])) _
          refine XS.iload X54.here hx rfl (hb hby at_131) rfl ?_
          show Steps p.tables e below (T54.setTop (mkF m 133 #[.val (.int p1), .val (.int p2), .val (.long q3), .second, .val (.long q4), .second, .val (.int (Int32.ofNat k0)), .val (.int b0_), .val (.int b1_), .val (.int b2_), .val (.int b3_), .val (.ref b22), .val (.ref b44), .val (.long (q3 ||| (lowA b0_))), .second, .val (.long q4), .second, .unset] [(.int b0_), (.long q4)])) _
          exact k)
      obtain ⟨_, _, ⟨T56, L56, k56, n56⟩, -, X56, ⟨Lc56, hQ56, l56, y56, z56⟩, st56⟩ := Jvm.LawKit.callS X54 hx (y := (⟨"com/example/sluice/sluice/engine/GatheredMarkPinLaw", "high", "(B)J"⟩ : MethodName)) hown (mvT hZ (hw _ (List.mem_of_getElem? (i := 11) rfl))) (mvT hZ (hw _ (List.mem_of_getElem? (i := 12) rfl))) (mvT hZ (hw _ (List.mem_of_getElem? (i := 9) rfl))) (mvT hZ (hw _ (List.mem_of_getElem? (i := 13) rfl))) (by decide) (backOf (W := 2) (rmh l Z a0 hw [] b0_ T50.heap n0 Zb) hZ (hw _ (List.mem_of_getElem? (i := 13) rfl)) (hw _ (List.mem_of_getElem? (i := 9) rfl)) (by decide) (by decide)) (g := (mkF m 133 #[.val (.int p1), .val (.int p2), .val (.long q3), .second, .val (.long q4), .second, .val (.int (Int32.ofNat k0)), .val (.int b0_), .val (.int b1_), .val (.int b2_), .val (.int b3_), .val (.ref b22), .val (.ref b44), .val (.long (q3 ||| (lowA b0_))), .second, .val (.long q4), .second, .unset] [(.int b0_), (.long q4)])) rfl (by rw [hml]; rfl) (argsL := [(.int b0_)]) (rest := [(.long q4)]) (lenOf pd_1 rfl) rfl (by show 2 * 0 + _ ≤ _; exact Nat.le_of_eq rfl) (hb hby at_133) (fun _ _ => ⟨rfl, eh54, (by decide : 2 + 0 ≤ _), (by decide : 6 + 0 ≤ _)⟩)
      dsimp only [Pt.U, Pt.locs, Pt.cells, Pt.slots] at X56 l56 y56 z56 st56 hQ56
      subst l56 y56 z56
      obtain ⟨rfl, N56q, eh56⟩ := hQ56
      have N56 := Fr.app N54 N56q
      have pre56 : Goes p e below s₁ (entryFrame m #[(.int p1), (.int p2), (.long q3), (.long q4)] maxLocals) T56 (mkF m 136 #[.val (.int p1), .val (.int p2), .val (.long q3), .second, .val (.long q4), .second, .val (.int (Int32.ofNat k0)), .val (.int b0_), .val (.int b1_), .val (.int b2_), .val (.int b3_), .val (.ref b22), .val (.ref b44), .val (.long (q3 ||| (lowA b0_))), .second, .val (.long q4), .second, .unset] [(.long (highA b0_)), (.long q4)]) := fun t k => pre55 t (st56 _ k)
      have pre57 : Goes p e below s₁ (entryFrame m #[(.int p1), (.int p2), (.long q3), (.long q4)] maxLocals) T56 (mkF m 139 #[.val (.int p1), .val (.int p2), .val (.long q3), .second, .val (.long q4), .second, .val (.int (Int32.ofNat k0)), .val (.int b0_), .val (.int b1_), .val (.int b2_), .val (.int b3_), .val (.ref b22), .val (.ref b44), .val (.long (q3 ||| (lowA b0_))), .second, .val (.long (q4 ||| (highA b0_))), .second, .unset] []) := fun t k => pre56 t (by
          refine XS.lor X56.here hx rfl (hb hby at_136) rfl ?_
          show Steps p.tables e below (T56.setTop (mkF m 137 #[.val (.int p1), .val (.int p2), .val (.long q3), .second, .val (.long q4), .second, .val (.int (Int32.ofNat k0)), .val (.int b0_), .val (.int b1_), .val (.int b2_), .val (.int b3_), .val (.ref b22), .val (.ref b44), .val (.long (q3 ||| (lowA b0_))), .second, .val (.long q4), .second, .unset] [(.long (q4 ||| (highA b0_)))])) _
          refine XS.lstore X56.here hx rfl (hb hby at_137) rfl (l' := #[.val (.int p1), .val (.int p2), .val (.long q3), .second, .val (.long q4), .second, .val (.int (Int32.ofNat k0)), .val (.int b0_), .val (.int b1_), .val (.int b2_), .val (.int b3_), .val (.ref b22), .val (.ref b44), .val (.long (q3 ||| (lowA b0_))), .second, .val (.long (q4 ||| (highA b0_))), .second, .unset]) rfl ?_
          show Steps p.tables e below (T56.setTop (mkF m 139 #[.val (.int p1), .val (.int p2), .val (.long q3), .second, .val (.long q4), .second, .val (.int (Int32.ofNat k0)), .val (.int b0_), .val (.int b1_), .val (.int b2_), .val (.int b3_), .val (.ref b22), .val (.ref b44), .val (.long (q3 ||| (lowA b0_))), .second, .val (.long (q4 ||| (highA b0_))), .second, .unset] [])) _
          exact k)
      exact ⟨_, _, X56, eh56, N56, pre57⟩
    · skip
      rw [show (accA 0 k0 q3 (lowA b0_)) = q3 from if_neg ht0, show (accA 0 k0 q4 (highA b0_)) = q4 from if_neg ht0]
      have pre58 : Goes p e below s₁ (entryFrame m #[(.int p1), (.int p2), (.long q3), (.long q4)] maxLocals) T50 (mkF m 139 #[.val (.int p1), .val (.int p2), .val (.long q3), .second, .val (.long q4), .second, .val (.int (Int32.ofNat k0)), .val (.int b0_), .val (.int b1_), .val (.int b2_), .val (.int b3_), .val (.ref b22), .val (.ref b44), .val (.long q3), .second, .val (.long q4), .second, .unset] []) := fun t k => pre51 t (by
          refine XS.ifYes X50.here hx rfl (pc0 := 116) (pc' := 139) rfl (hb hby at_116) rfl ((if0 _ _).trans (flt ht0).2.2.2) (by decide) (by decide) ?_
          show Steps p.tables e below (T50.setTop (mkF m 139 #[.val (.int p1), .val (.int p2), .val (.long q3), .second, .val (.long q4), .second, .val (.int (Int32.ofNat k0)), .val (.int b0_), .val (.int b1_), .val (.int b2_), .val (.int b3_), .val (.ref b22), .val (.ref b44), .val (.long q3), .second, .val (.long q4), .second, .unset] [])) _
          exact k)
      exact ⟨_, _, X50, rfl, N50, pre58⟩
  have pre59 : Goes p e below s₁ (entryFrame m #[(.int p1), (.int p2), (.long q3), (.long q4)] maxLocals) T52 (mkF m 142 #[.val (.int p1), .val (.int p2), .val (.long q3), .second, .val (.long q4), .second, .val (.int (Int32.ofNat k0)), .val (.int b0_), .val (.int b1_), .val (.int b2_), .val (.int b3_), .val (.ref b22), .val (.ref b44), .val (.long (accA 0 k0 q3 (lowA b0_))), .second, .val (.long (accA 0 k0 q4 (highA b0_))), .second, .unset] [(.int (1 : Int32)), (.int (Int32.ofNat k0))]) := fun t k => pre52 t (by
      refine XS.iload X52.here hx rfl (hb hby at_139) rfl ?_
      show Steps p.tables e below (T52.setTop (mkF m 141 #[.val (.int p1), .val (.int p2), .val (.long q3), .second, .val (.long q4), .second, .val (.int (Int32.ofNat k0)), .val (.int b0_), .val (.int b1_), .val (.int b2_), .val (.int b3_), .val (.ref b22), .val (.ref b44), .val (.long (accA 0 k0 q3 (lowA b0_))), .second, .val (.long (accA 0 k0 q4 (highA b0_))), .second, .unset] [(.int (Int32.ofNat k0))])) _
      refine XS.iconst X52.here hx rfl (hb hby at_141) ?_
      show Steps p.tables e below (T52.setTop (mkF m 142 #[.val (.int p1), .val (.int p2), .val (.long q3), .second, .val (.long q4), .second, .val (.int (Int32.ofNat k0)), .val (.int b0_), .val (.int b1_), .val (.int b2_), .val (.int b3_), .val (.ref b22), .val (.ref b44), .val (.long (accA 0 k0 q3 (lowA b0_))), .second, .val (.long (accA 0 k0 q4 (highA b0_))), .second, .unset] [(.int (1 : Int32)), (.int (Int32.ofNat k0))])) _
      exact k)
  obtain ⟨T60, L60, X60, e60, N60, pre60⟩ : ∃ (T' : State) (L' : List Loc), Stand p l e room_1 s m #[(.int p1), (.int p2), (.long q3), (.long q4)] below meth c T' L' 2 6 ∧ T'.heap = T50.heap ∧ Fr n0 L' ∧ Goes p e below s₁ (entryFrame m #[(.int p1), (.int p2), (.long q3), (.long q4)] maxLocals) T' (mkF m 165 #[.val (.int p1), .val (.int p2), .val (.long q3), .second, .val (.long q4), .second, .val (.int (Int32.ofNat k0)), .val (.int b0_), .val (.int b1_), .val (.int b2_), .val (.int b3_), .val (.ref b22), .val (.ref b44), .val (.long (accA 1 k0 (accA 0 k0 q3 (lowA b0_)) (lowA b1_))), .second, .val (.long (accA 1 k0 (accA 0 k0 q4 (highA b0_)) (highA b1_))), .second, .unset] []) := by
    by_cases ht1 : (1 : Int32) < (Int32.ofNat k0)
    · skip
      rw [show (accA 1 k0 (accA 0 k0 q3 (lowA b0_)) (lowA b1_)) = (accA 0 k0 q3 (lowA b0_)) ||| lowA b1_ from if_pos ht1, show (accA 1 k0 (accA 0 k0 q4 (highA b0_)) (highA b1_)) = (accA 0 k0 q4 (highA b0_)) ||| highA b1_ from if_pos ht1]
      have pre61 : Goes p e below s₁ (entryFrame m #[(.int p1), (.int p2), (.long q3), (.long q4)] maxLocals) T52 (mkF m 149 #[.val (.int p1), .val (.int p2), .val (.long q3), .second, .val (.long q4), .second, .val (.int (Int32.ofNat k0)), .val (.int b0_), .val (.int b1_), .val (.int b2_), .val (.int b3_), .val (.ref b22), .val (.ref b44), .val (.long (accA 0 k0 q3 (lowA b0_))), .second, .val (.long (accA 0 k0 q4 (highA b0_))), .second, .unset] [(.int b1_), (.long (accA 0 k0 q3 (lowA b0_)))]) := fun t k => pre59 t (by
          refine XS.icmpNo X52.here hx rfl (hb hby at_142) rfl (tlt ht1).2.2.2 ?_
          show Steps p.tables e below (T52.setTop (mkF m 145 #[.val (.int p1), .val (.int p2), .val (.long q3), .second, .val (.long q4), .second, .val (.int (Int32.ofNat k0)), .val (.int b0_), .val (.int b1_), .val (.int b2_), .val (.int b3_), .val (.ref b22), .val (.ref b44), .val (.long (accA 0 k0 q3 (lowA b0_))), .second, .val (.long (accA 0 k0 q4 (highA b0_))), .second, .unset] [])) _
          refine XS.lload X52.here hx rfl (hb hby at_145) rfl ?_
          show Steps p.tables e below (T52.setTop (mkF m 147 #[.val (.int p1), .val (.int p2), .val (.long q3), .second, .val (.long q4), .second, .val (.int (Int32.ofNat k0)), .val (.int b0_), .val (.int b1_), .val (.int b2_), .val (.int b3_), .val (.ref b22), .val (.ref b44), .val (.long (accA 0 k0 q3 (lowA b0_))), .second, .val (.long (accA 0 k0 q4 (highA b0_))), .second, .unset] [(.long (accA 0 k0 q3 (lowA b0_)))])) _
          refine XS.iload X52.here hx rfl (hb hby at_147) rfl ?_
          show Steps p.tables e below (T52.setTop (mkF m 149 #[.val (.int p1), .val (.int p2), .val (.long q3), .second, .val (.long q4), .second, .val (.int (Int32.ofNat k0)), .val (.int b0_), .val (.int b1_), .val (.int b2_), .val (.int b3_), .val (.ref b22), .val (.ref b44), .val (.long (accA 0 k0 q3 (lowA b0_))), .second, .val (.long (accA 0 k0 q4 (highA b0_))), .second, .unset] [(.int b1_), (.long (accA 0 k0 q3 (lowA b0_)))])) _
          exact k)
      obtain ⟨_, _, ⟨T62, L62, k62, n62⟩, -, X62, ⟨Lc62, hQ62, l62, y62, z62⟩, st62⟩ := Jvm.LawKit.callS X52 hx (y := (⟨"com/example/sluice/sluice/engine/GatheredMarkPinLaw", "low", "(B)J"⟩ : MethodName)) hown (mvT hZ (hw _ (List.mem_of_getElem? (i := 7) rfl))) (mvT hZ (hw _ (List.mem_of_getElem? (i := 8) rfl))) (mvT hZ (hw _ (List.mem_of_getElem? (i := 9) rfl))) (mvT hZ (hw _ (List.mem_of_getElem? (i := 10) rfl))) (by decide) (backOf (W := 2) (rml l Z a0 hw [] b1_ T50.heap n0 Zb) hZ (hw _ (List.mem_of_getElem? (i := 10) rfl)) (hw _ (List.mem_of_getElem? (i := 9) rfl)) (by decide) (by decide)) (g := (mkF m 149 #[.val (.int p1), .val (.int p2), .val (.long q3), .second, .val (.long q4), .second, .val (.int (Int32.ofNat k0)), .val (.int b0_), .val (.int b1_), .val (.int b2_), .val (.int b3_), .val (.ref b22), .val (.ref b44), .val (.long (accA 0 k0 q3 (lowA b0_))), .second, .val (.long (accA 0 k0 q4 (highA b0_))), .second, .unset] [(.int b1_), (.long (accA 0 k0 q3 (lowA b0_)))])) rfl (by rw [hml]; rfl) (argsL := [(.int b1_)]) (rest := [(.long (accA 0 k0 q3 (lowA b0_)))]) (lenOf pd_1 rfl) rfl (by show 2 * 0 + _ ≤ _; exact Nat.le_of_eq rfl) (hb hby at_149) (fun _ _ => ⟨rfl, e52, (by decide : 2 + 0 ≤ _), (by decide : 6 + 0 ≤ _)⟩)
      dsimp only [Pt.U, Pt.locs, Pt.cells, Pt.slots] at X62 l62 y62 z62 st62 hQ62
      subst l62 y62 z62
      obtain ⟨rfl, N62q, eh62⟩ := hQ62
      have N62 := Fr.app N52 N62q
      have pre62 : Goes p e below s₁ (entryFrame m #[(.int p1), (.int p2), (.long q3), (.long q4)] maxLocals) T62 (mkF m 152 #[.val (.int p1), .val (.int p2), .val (.long q3), .second, .val (.long q4), .second, .val (.int (Int32.ofNat k0)), .val (.int b0_), .val (.int b1_), .val (.int b2_), .val (.int b3_), .val (.ref b22), .val (.ref b44), .val (.long (accA 0 k0 q3 (lowA b0_))), .second, .val (.long (accA 0 k0 q4 (highA b0_))), .second, .unset] [(.long (lowA b1_)), (.long (accA 0 k0 q3 (lowA b0_)))]) := fun t k => pre61 t (st62 _ k)
      have pre63 : Goes p e below s₁ (entryFrame m #[(.int p1), (.int p2), (.long q3), (.long q4)] maxLocals) T62 (mkF m 159 #[.val (.int p1), .val (.int p2), .val (.long q3), .second, .val (.long q4), .second, .val (.int (Int32.ofNat k0)), .val (.int b0_), .val (.int b1_), .val (.int b2_), .val (.int b3_), .val (.ref b22), .val (.ref b44), .val (.long ((accA 0 k0 q3 (lowA b0_)) ||| (lowA b1_))), .second, .val (.long (accA 0 k0 q4 (highA b0_))), .second, .unset] [(.int b1_), (.long (accA 0 k0 q4 (highA b0_)))]) := fun t k => pre62 t (by
          refine XS.lor X62.here hx rfl (hb hby at_152) rfl ?_
          show Steps p.tables e below (T62.setTop (mkF m 153 #[.val (.int p1), .val (.int p2), .val (.long q3), .second, .val (.long q4), .second, .val (.int (Int32.ofNat k0)), .val (.int b0_), .val (.int b1_), .val (.int b2_), .val (.int b3_), .val (.ref b22), .val (.ref b44), .val (.long (accA 0 k0 q3 (lowA b0_))), .second, .val (.long (accA 0 k0 q4 (highA b0_))), .second, .unset] [(.long ((accA 0 k0 q3 (lowA b0_)) ||| (lowA b1_)))])) _
          refine XS.lstore X62.here hx rfl (hb hby at_153) rfl (l' := #[.val (.int p1), .val (.int p2), .val (.long q3), .second, .val (.long q4), .second, .val (.int (Int32.ofNat k0)), .val (.int b0_), .val (.int b1_), .val (.int b2_), .val (.int b3_), .val (.ref b22), .val (.ref b44), .val (.long ((accA 0 k0 q3 (lowA b0_)) ||| (lowA b1_))), .second, .val (.long (accA 0 k0 q4 (highA b0_))), .second, .unset]) rfl ?_
          show Steps p.tables e below (T62.setTop (mkF m 155 #[.val (.int p1), .val (.int p2), .val (.long q3), .second, .val (.long q4), .second, .val (.int (Int32.ofNat k0)), .val (.int b0_), .val (.int b1_), .val (.int b2_), .val (.int b3_), .val (.ref b22), .val (.ref b44), .val (.long ((accA 0 k0 q3 (lowA b0_)) ||| (lowA b1_))), .second, .val (.long (accA 0 k0 q4 (highA b0_))), .second, .unset] [])) _
          refine XS.lload X62.here hx rfl (hb hby at_155) rfl ?_
          show Steps p.tables e below (T62.setTop (mkF m 157 #[.val (.int p1), .val (.int p2), .val (.long q3), .second, .val (.long q4), .second, .val (.int (Int32.ofNat k0)), .val (.int b0_), .val (.int b1_), .val (.int b2_), .val (.int b3_), .val (.ref b22), .val (.ref b44), .val (.long ((accA 0 k0 q3 (lowA b0_)) ||| (lowA b1_))), .second, .val (.long (accA 0 k0 q4 (highA b0_))), .second, .unset] [(.long (accA 0 k0 q4 (highA b0_)))])) _
          refine XS.iload X62.here hx rfl (hb hby at_157) rfl ?_
          show Steps p.tables e below (T62.setTop (mkF m 159 #[.val (.int p1), .val (.int p2), .val (.long q3), .second, .val (.long q4), .second, .val (.int (Int32.ofNat k0)), .val (.int b0_), .val (.int b1_), .val (.int b2_), .val (.int b3_), .val (.ref b22), .val (.ref b44), .val (.long ((accA 0 k0 q3 (lowA b0_)) ||| (lowA b1_))), .second, .val (.long (accA 0 k0 q4 (highA b0_))), .second, .unset] [(.int b1_), (.long (accA 0 k0 q4 (highA b0_)))])) _
          exact k)
      obtain ⟨_, _, ⟨T64, L64, k64, n64⟩, -, X64, ⟨Lc64, hQ64, l64, y64, z64⟩, st64⟩ := Jvm.LawKit.callS X62 hx (y := (⟨"com/example/sluice/sluice/engine/GatheredMarkPinLaw", "high", "(B)J"⟩ : MethodName)) hown (mvT hZ (hw _ (List.mem_of_getElem? (i := 11) rfl))) (mvT hZ (hw _ (List.mem_of_getElem? (i := 12) rfl))) (mvT hZ (hw _ (List.mem_of_getElem? (i := 9) rfl))) (mvT hZ (hw _ (List.mem_of_getElem? (i := 13) rfl))) (by decide) (backOf (W := 2) (rmh l Z a0 hw [] b1_ T50.heap n0 Zb) hZ (hw _ (List.mem_of_getElem? (i := 13) rfl)) (hw _ (List.mem_of_getElem? (i := 9) rfl)) (by decide) (by decide)) (g := (mkF m 159 #[.val (.int p1), .val (.int p2), .val (.long q3), .second, .val (.long q4), .second, .val (.int (Int32.ofNat k0)), .val (.int b0_), .val (.int b1_), .val (.int b2_), .val (.int b3_), .val (.ref b22), .val (.ref b44), .val (.long ((accA 0 k0 q3 (lowA b0_)) ||| (lowA b1_))), .second, .val (.long (accA 0 k0 q4 (highA b0_))), .second, .unset] [(.int b1_), (.long (accA 0 k0 q4 (highA b0_)))])) rfl (by rw [hml]; rfl) (argsL := [(.int b1_)]) (rest := [(.long (accA 0 k0 q4 (highA b0_)))]) (lenOf pd_1 rfl) rfl (by show 2 * 0 + _ ≤ _; exact Nat.le_of_eq rfl) (hb hby at_159) (fun _ _ => ⟨rfl, eh62, (by decide : 2 + 0 ≤ _), (by decide : 6 + 0 ≤ _)⟩)
      dsimp only [Pt.U, Pt.locs, Pt.cells, Pt.slots] at X64 l64 y64 z64 st64 hQ64
      subst l64 y64 z64
      obtain ⟨rfl, N64q, eh64⟩ := hQ64
      have N64 := Fr.app N62 N64q
      have pre64 : Goes p e below s₁ (entryFrame m #[(.int p1), (.int p2), (.long q3), (.long q4)] maxLocals) T64 (mkF m 162 #[.val (.int p1), .val (.int p2), .val (.long q3), .second, .val (.long q4), .second, .val (.int (Int32.ofNat k0)), .val (.int b0_), .val (.int b1_), .val (.int b2_), .val (.int b3_), .val (.ref b22), .val (.ref b44), .val (.long ((accA 0 k0 q3 (lowA b0_)) ||| (lowA b1_))), .second, .val (.long (accA 0 k0 q4 (highA b0_))), .second, .unset] [(.long (highA b1_)), (.long (accA 0 k0 q4 (highA b0_)))]) := fun t k => pre63 t (st64 _ k)
      have pre65 : Goes p e below s₁ (entryFrame m #[(.int p1), (.int p2), (.long q3), (.long q4)] maxLocals) T64 (mkF m 165 #[.val (.int p1), .val (.int p2), .val (.long q3), .second, .val (.long q4), .second, .val (.int (Int32.ofNat k0)), .val (.int b0_), .val (.int b1_), .val (.int b2_), .val (.int b3_), .val (.ref b22), .val (.ref b44), .val (.long ((accA 0 k0 q3 (lowA b0_)) ||| (lowA b1_))), .second, .val (.long ((accA 0 k0 q4 (highA b0_)) ||| (highA b1_))), .second, .unset] []) := fun t k => pre64 t (by
          refine XS.lor X64.here hx rfl (hb hby at_162) rfl ?_
          show Steps p.tables e below (T64.setTop (mkF m 163 #[.val (.int p1), .val (.int p2), .val (.long q3), .second, .val (.long q4), .second, .val (.int (Int32.ofNat k0)), .val (.int b0_), .val (.int b1_), .val (.int b2_), .val (.int b3_), .val (.ref b22), .val (.ref b44), .val (.long ((accA 0 k0 q3 (lowA b0_)) ||| (lowA b1_))), .second, .val (.long (accA 0 k0 q4 (highA b0_))), .second, .unset] [(.long ((accA 0 k0 q4 (highA b0_)) ||| (highA b1_)))])) _
          refine XS.lstore X64.here hx rfl (hb hby at_163) rfl (l' := #[.val (.int p1), .val (.int p2), .val (.long q3), .second, .val (.long q4), .second, .val (.int (Int32.ofNat k0)), .val (.int b0_), .val (.int b1_), .val (.int b2_), .val (.int b3_), .val (.ref b22), .val (.ref b44), .val (.long ((accA 0 k0 q3 (lowA b0_)) ||| (lowA b1_))), .second, .val (.long ((accA 0 k0 q4 (highA b0_)) ||| (highA b1_))), .second, .unset]) rfl ?_
          show Steps p.tables e below (T64.setTop (mkF m 165 #[.val (.int p1), .val (.int p2), .val (.long q3), .second, .val (.long q4), .second, .val (.int (Int32.ofNat k0)), .val (.int b0_), .val (.int b1_), .val (.int b2_), .val (.int b3_), .val (.ref b22), .val (.ref b44), .val (.long ((accA 0 k0 q3 (lowA b0_)) ||| (lowA b1_))), .second, .val (.long ((accA 0 k0 q4 (highA b0_)) ||| (highA b1_))), .second, .unset] [])) _
          exact k)
      exact ⟨_, _, X64, eh64, N64, pre65⟩
    · skip
      rw [show (accA 1 k0 (accA 0 k0 q3 (lowA b0_)) (lowA b1_)) = (accA 0 k0 q3 (lowA b0_)) from if_neg ht1, show (accA 1 k0 (accA 0 k0 q4 (highA b0_)) (highA b1_)) = (accA 0 k0 q4 (highA b0_)) from if_neg ht1]
      have pre66 : Goes p e below s₁ (entryFrame m #[(.int p1), (.int p2), (.long q3), (.long q4)] maxLocals) T52 (mkF m 165 #[.val (.int p1), .val (.int p2), .val (.long q3), .second, .val (.long q4), .second, .val (.int (Int32.ofNat k0)), .val (.int b0_), .val (.int b1_), .val (.int b2_), .val (.int b3_), .val (.ref b22), .val (.ref b44), .val (.long (accA 0 k0 q3 (lowA b0_))), .second, .val (.long (accA 0 k0 q4 (highA b0_))), .second, .unset] []) := fun t k => pre59 t (by
          refine XS.icmpYes X52.here hx rfl (pc0 := 142) (pc' := 165) rfl (hb hby at_142) rfl (flt ht1).2.2.2 (by decide) (by decide) ?_
          show Steps p.tables e below (T52.setTop (mkF m 165 #[.val (.int p1), .val (.int p2), .val (.long q3), .second, .val (.long q4), .second, .val (.int (Int32.ofNat k0)), .val (.int b0_), .val (.int b1_), .val (.int b2_), .val (.int b3_), .val (.ref b22), .val (.ref b44), .val (.long (accA 0 k0 q3 (lowA b0_))), .second, .val (.long (accA 0 k0 q4 (highA b0_))), .second, .unset] [])) _
          exact k)
      exact ⟨_, _, X52, e52, N52, pre66⟩
  have pre67 : Goes p e below s₁ (entryFrame m #[(.int p1), (.int p2), (.long q3), (.long q4)] maxLocals) T60 (mkF m 168 #[.val (.int p1), .val (.int p2), .val (.long q3), .second, .val (.long q4), .second, .val (.int (Int32.ofNat k0)), .val (.int b0_), .val (.int b1_), .val (.int b2_), .val (.int b3_), .val (.ref b22), .val (.ref b44), .val (.long (accA 1 k0 (accA 0 k0 q3 (lowA b0_)) (lowA b1_))), .second, .val (.long (accA 1 k0 (accA 0 k0 q4 (highA b0_)) (highA b1_))), .second, .unset] [(.int (2 : Int32)), (.int (Int32.ofNat k0))]) := fun t k => pre60 t (by
      refine XS.iload X60.here hx rfl (hb hby at_165) rfl ?_
      show Steps p.tables e below (T60.setTop (mkF m 167 #[.val (.int p1), .val (.int p2), .val (.long q3), .second, .val (.long q4), .second, .val (.int (Int32.ofNat k0)), .val (.int b0_), .val (.int b1_), .val (.int b2_), .val (.int b3_), .val (.ref b22), .val (.ref b44), .val (.long (accA 1 k0 (accA 0 k0 q3 (lowA b0_)) (lowA b1_))), .second, .val (.long (accA 1 k0 (accA 0 k0 q4 (highA b0_)) (highA b1_))), .second, .unset] [(.int (Int32.ofNat k0))])) _
      refine XS.iconst X60.here hx rfl (hb hby at_167) ?_
      show Steps p.tables e below (T60.setTop (mkF m 168 #[.val (.int p1), .val (.int p2), .val (.long q3), .second, .val (.long q4), .second, .val (.int (Int32.ofNat k0)), .val (.int b0_), .val (.int b1_), .val (.int b2_), .val (.int b3_), .val (.ref b22), .val (.ref b44), .val (.long (accA 1 k0 (accA 0 k0 q3 (lowA b0_)) (lowA b1_))), .second, .val (.long (accA 1 k0 (accA 0 k0 q4 (highA b0_)) (highA b1_))), .second, .unset] [(.int (2 : Int32)), (.int (Int32.ofNat k0))])) _
      exact k)
  obtain ⟨T68, L68, X68, e68, N68, pre68⟩ : ∃ (T' : State) (L' : List Loc), Stand p l e room_1 s m #[(.int p1), (.int p2), (.long q3), (.long q4)] below meth c T' L' 2 6 ∧ T'.heap = T50.heap ∧ Fr n0 L' ∧ Goes p e below s₁ (entryFrame m #[(.int p1), (.int p2), (.long q3), (.long q4)] maxLocals) T' (mkF m 191 #[.val (.int p1), .val (.int p2), .val (.long q3), .second, .val (.long q4), .second, .val (.int (Int32.ofNat k0)), .val (.int b0_), .val (.int b1_), .val (.int b2_), .val (.int b3_), .val (.ref b22), .val (.ref b44), .val (.long (accA 2 k0 (accA 1 k0 (accA 0 k0 q3 (lowA b0_)) (lowA b1_)) (lowA b2_))), .second, .val (.long (accA 2 k0 (accA 1 k0 (accA 0 k0 q4 (highA b0_)) (highA b1_)) (highA b2_))), .second, .unset] []) := by
    by_cases ht2 : (2 : Int32) < (Int32.ofNat k0)
    · skip
      rw [show (accA 2 k0 (accA 1 k0 (accA 0 k0 q3 (lowA b0_)) (lowA b1_)) (lowA b2_)) = (accA 1 k0 (accA 0 k0 q3 (lowA b0_)) (lowA b1_)) ||| lowA b2_ from if_pos ht2, show (accA 2 k0 (accA 1 k0 (accA 0 k0 q4 (highA b0_)) (highA b1_)) (highA b2_)) = (accA 1 k0 (accA 0 k0 q4 (highA b0_)) (highA b1_)) ||| highA b2_ from if_pos ht2]
      have pre69 : Goes p e below s₁ (entryFrame m #[(.int p1), (.int p2), (.long q3), (.long q4)] maxLocals) T60 (mkF m 175 #[.val (.int p1), .val (.int p2), .val (.long q3), .second, .val (.long q4), .second, .val (.int (Int32.ofNat k0)), .val (.int b0_), .val (.int b1_), .val (.int b2_), .val (.int b3_), .val (.ref b22), .val (.ref b44), .val (.long (accA 1 k0 (accA 0 k0 q3 (lowA b0_)) (lowA b1_))), .second, .val (.long (accA 1 k0 (accA 0 k0 q4 (highA b0_)) (highA b1_))), .second, .unset] [(.int b2_), (.long (accA 1 k0 (accA 0 k0 q3 (lowA b0_)) (lowA b1_)))]) := fun t k => pre67 t (by
          refine XS.icmpNo X60.here hx rfl (hb hby at_168) rfl (tlt ht2).2.2.2 ?_
          show Steps p.tables e below (T60.setTop (mkF m 171 #[.val (.int p1), .val (.int p2), .val (.long q3), .second, .val (.long q4), .second, .val (.int (Int32.ofNat k0)), .val (.int b0_), .val (.int b1_), .val (.int b2_), .val (.int b3_), .val (.ref b22), .val (.ref b44), .val (.long (accA 1 k0 (accA 0 k0 q3 (lowA b0_)) (lowA b1_))), .second, .val (.long (accA 1 k0 (accA 0 k0 q4 (highA b0_)) (highA b1_))), .second, .unset] [])) _
          refine XS.lload X60.here hx rfl (hb hby at_171) rfl ?_
          show Steps p.tables e below (T60.setTop (mkF m 173 #[.val (.int p1), .val (.int p2), .val (.long q3), .second, .val (.long q4), .second, .val (.int (Int32.ofNat k0)), .val (.int b0_), .val (.int b1_), .val (.int b2_), .val (.int b3_), .val (.ref b22), .val (.ref b44), .val (.long (accA 1 k0 (accA 0 k0 q3 (lowA b0_)) (lowA b1_))), .second, .val (.long (accA 1 k0 (accA 0 k0 q4 (highA b0_)) (highA b1_))), .second, .unset] [(.long (accA 1 k0 (accA 0 k0 q3 (lowA b0_)) (lowA b1_)))])) _
          refine XS.iload X60.here hx rfl (hb hby at_173) rfl ?_
          show Steps p.tables e below (T60.setTop (mkF m 175 #[.val (.int p1), .val (.int p2), .val (.long q3), .second, .val (.long q4), .second, .val (.int (Int32.ofNat k0)), .val (.int b0_), .val (.int b1_), .val (.int b2_), .val (.int b3_), .val (.ref b22), .val (.ref b44), .val (.long (accA 1 k0 (accA 0 k0 q3 (lowA b0_)) (lowA b1_))), .second, .val (.long (accA 1 k0 (accA 0 k0 q4 (highA b0_)) (highA b1_))), .second, .unset] [(.int b2_), (.long (accA 1 k0 (accA 0 k0 q3 (lowA b0_)) (lowA b1_)))])) _
          exact k)
      obtain ⟨_, _, ⟨T70, L70, k70, n70⟩, -, X70, ⟨Lc70, hQ70, l70, y70, z70⟩, st70⟩ := Jvm.LawKit.callS X60 hx (y := (⟨"com/example/sluice/sluice/engine/GatheredMarkPinLaw", "low", "(B)J"⟩ : MethodName)) hown (mvT hZ (hw _ (List.mem_of_getElem? (i := 7) rfl))) (mvT hZ (hw _ (List.mem_of_getElem? (i := 8) rfl))) (mvT hZ (hw _ (List.mem_of_getElem? (i := 9) rfl))) (mvT hZ (hw _ (List.mem_of_getElem? (i := 10) rfl))) (by decide) (backOf (W := 2) (rml l Z a0 hw [] b2_ T50.heap n0 Zb) hZ (hw _ (List.mem_of_getElem? (i := 10) rfl)) (hw _ (List.mem_of_getElem? (i := 9) rfl)) (by decide) (by decide)) (g := (mkF m 175 #[.val (.int p1), .val (.int p2), .val (.long q3), .second, .val (.long q4), .second, .val (.int (Int32.ofNat k0)), .val (.int b0_), .val (.int b1_), .val (.int b2_), .val (.int b3_), .val (.ref b22), .val (.ref b44), .val (.long (accA 1 k0 (accA 0 k0 q3 (lowA b0_)) (lowA b1_))), .second, .val (.long (accA 1 k0 (accA 0 k0 q4 (highA b0_)) (highA b1_))), .second, .unset] [(.int b2_), (.long (accA 1 k0 (accA 0 k0 q3 (lowA b0_)) (lowA b1_)))])) rfl (by rw [hml]; rfl) (argsL := [(.int b2_)]) (rest := [(.long (accA 1 k0 (accA 0 k0 q3 (lowA b0_)) (lowA b1_)))]) (lenOf pd_1 rfl) rfl (by show 2 * 0 + _ ≤ _; exact Nat.le_of_eq rfl) (hb hby at_175) (fun _ _ => ⟨rfl, e60, (by decide : 2 + 0 ≤ _), (by decide : 6 + 0 ≤ _)⟩)
      dsimp only [Pt.U, Pt.locs, Pt.cells, Pt.slots] at X70 l70 y70 z70 st70 hQ70
      subst l70 y70 z70
      obtain ⟨rfl, N70q, eh70⟩ := hQ70
      have N70 := Fr.app N60 N70q
      have pre70 : Goes p e below s₁ (entryFrame m #[(.int p1), (.int p2), (.long q3), (.long q4)] maxLocals) T70 (mkF m 178 #[.val (.int p1), .val (.int p2), .val (.long q3), .second, .val (.long q4), .second, .val (.int (Int32.ofNat k0)), .val (.int b0_), .val (.int b1_), .val (.int b2_), .val (.int b3_), .val (.ref b22), .val (.ref b44), .val (.long (accA 1 k0 (accA 0 k0 q3 (lowA b0_)) (lowA b1_))), .second, .val (.long (accA 1 k0 (accA 0 k0 q4 (highA b0_)) (highA b1_))), .second, .unset] [(.long (lowA b2_)), (.long (accA 1 k0 (accA 0 k0 q3 (lowA b0_)) (lowA b1_)))]) := fun t k => pre69 t (st70 _ k)
      have pre71 : Goes p e below s₁ (entryFrame m #[(.int p1), (.int p2), (.long q3), (.long q4)] maxLocals) T70 (mkF m 185 #[.val (.int p1), .val (.int p2), .val (.long q3), .second, .val (.long q4), .second, .val (.int (Int32.ofNat k0)), .val (.int b0_), .val (.int b1_), .val (.int b2_), .val (.int b3_), .val (.ref b22), .val (.ref b44), .val (.long ((accA 1 k0 (accA 0 k0 q3 (lowA b0_)) (lowA b1_)) ||| (lowA b2_))), .second, .val (.long (accA 1 k0 (accA 0 k0 q4 (highA b0_)) (highA b1_))), .second, .unset] [(.int b2_), (.long (accA 1 k0 (accA 0 k0 q4 (highA b0_)) (highA b1_)))]) := fun t k => pre70 t (by
          refine XS.lor X70.here hx rfl (hb hby at_178) rfl ?_
          show Steps p.tables e below (T70.setTop (mkF m 179 #[.val (.int p1), .val (.int p2), .val (.long q3), .second, .val (.long q4), .second, .val (.int (Int32.ofNat k0)), .val (.int b0_), .val (.int b1_), .val (.int b2_), .val (.int b3_), .val (.ref b22), .val (.ref b44), .val (.long (accA 1 k0 (accA 0 k0 q3 (lowA b0_)) (lowA b1_))), .second, .val (.long (accA 1 k0 (accA 0 k0 q4 (highA b0_)) (highA b1_))), .second, .unset] [(.long ((accA 1 k0 (accA 0 k0 q3 (lowA b0_)) (lowA b1_)) ||| (lowA b2_)))])) _
          refine XS.lstore X70.here hx rfl (hb hby at_179) rfl (l' := #[.val (.int p1), .val (.int p2), .val (.long q3), .second, .val (.long q4), .second, .val (.int (Int32.ofNat k0)), .val (.int b0_), .val (.int b1_), .val (.int b2_), .val (.int b3_), .val (.ref b22), .val (.ref b44), .val (.long ((accA 1 k0 (accA 0 k0 q3 (lowA b0_)) (lowA b1_)) ||| (lowA b2_))), .second, .val (.long (accA 1 k0 (accA 0 k0 q4 (highA b0_)) (highA b1_))), .second, .unset]) rfl ?_
          show Steps p.tables e below (T70.setTop (mkF m 181 #[.val (.int p1), .val (.int p2), .val (.long q3), .second, .val (.long q4), .second, .val (.int (Int32.ofNat k0)), .val (.int b0_), .val (.int b1_), .val (.int b2_), .val (.int b3_), .val (.ref b22), .val (.ref b44), .val (.long ((accA 1 k0 (accA 0 k0 q3 (lowA b0_)) (lowA b1_)) ||| (lowA b2_))), .second, .val (.long (accA 1 k0 (accA 0 k0 q4 (highA b0_)) (highA b1_))), .second, .unset] [])) _
          refine XS.lload X70.here hx rfl (hb hby at_181) rfl ?_
          show Steps p.tables e below (T70.setTop (mkF m 183 #[.val (.int p1), .val (.int p2), .val (.long q3), .second, .val (.long q4), .second, .val (.int (Int32.ofNat k0)), .val (.int b0_), .val (.int b1_), .val (.int b2_), .val (.int b3_), .val (.ref b22), .val (.ref b44), .val (.long ((accA 1 k0 (accA 0 k0 q3 (lowA b0_)) (lowA b1_)) ||| (lowA b2_))), .second, .val (.long (accA 1 k0 (accA 0 k0 q4 (highA b0_)) (highA b1_))), .second, .unset] [(.long (accA 1 k0 (accA 0 k0 q4 (highA b0_)) (highA b1_)))])) _
          refine XS.iload X70.here hx rfl (hb hby at_183) rfl ?_
          show Steps p.tables e below (T70.setTop (mkF m 185 #[.val (.int p1), .val (.int p2), .val (.long q3), .second, .val (.long q4), .second, .val (.int (Int32.ofNat k0)), .val (.int b0_), .val (.int b1_), .val (.int b2_), .val (.int b3_), .val (.ref b22), .val (.ref b44), .val (.long ((accA 1 k0 (accA 0 k0 q3 (lowA b0_)) (lowA b1_)) ||| (lowA b2_))), .second, .val (.long (accA 1 k0 (accA 0 k0 q4 (highA b0_)) (highA b1_))), .second, .unset] [(.int b2_), (.long (accA 1 k0 (accA 0 k0 q4 (highA b0_)) (highA b1_)))])) _
          exact k)
      obtain ⟨_, _, ⟨T72, L72, k72, n72⟩, -, X72, ⟨Lc72, hQ72, l72, y72, z72⟩, st72⟩ := Jvm.LawKit.callS X70 hx (y := (⟨"com/example/sluice/sluice/engine/GatheredMarkPinLaw", "high", "(B)J"⟩ : MethodName)) hown (mvT hZ (hw _ (List.mem_of_getElem? (i := 11) rfl))) (mvT hZ (hw _ (List.mem_of_getElem? (i := 12) rfl))) (mvT hZ (hw _ (List.mem_of_getElem? (i := 9) rfl))) (mvT hZ (hw _ (List.mem_of_getElem? (i := 13) rfl))) (by decide) (backOf (W := 2) (rmh l Z a0 hw [] b2_ T50.heap n0 Zb) hZ (hw _ (List.mem_of_getElem? (i := 13) rfl)) (hw _ (List.mem_of_getElem? (i := 9) rfl)) (by decide) (by decide)) (g := (mkF m 185 #[.val (.int p1), .val (.int p2), .val (.long q3), .second, .val (.long q4), .second, .val (.int (Int32.ofNat k0)), .val (.int b0_), .val (.int b1_), .val (.int b2_), .val (.int b3_), .val (.ref b22), .val (.ref b44), .val (.long ((accA 1 k0 (accA 0 k0 q3 (lowA b0_)) (lowA b1_)) ||| (lowA b2_))), .second, .val (.long (accA 1 k0 (accA 0 k0 q4 (highA b0_)) (highA b1_))), .second, .unset] [(.int b2_), (.long (accA 1 k0 (accA 0 k0 q4 (highA b0_)) (highA b1_)))])) rfl (by rw [hml]; rfl) (argsL := [(.int b2_)]) (rest := [(.long (accA 1 k0 (accA 0 k0 q4 (highA b0_)) (highA b1_)))]) (lenOf pd_1 rfl) rfl (by show 2 * 0 + _ ≤ _; exact Nat.le_of_eq rfl) (hb hby at_185) (fun _ _ => ⟨rfl, eh70, (by decide : 2 + 0 ≤ _), (by decide : 6 + 0 ≤ _)⟩)
      dsimp only [Pt.U, Pt.locs, Pt.cells, Pt.slots] at X72 l72 y72 z72 st72 hQ72
      subst l72 y72 z72
      obtain ⟨rfl, N72q, eh72⟩ := hQ72
      have N72 := Fr.app N70 N72q
      have pre72 : Goes p e below s₁ (entryFrame m #[(.int p1), (.int p2), (.long q3), (.long q4)] maxLocals) T72 (mkF m 188 #[.val (.int p1), .val (.int p2), .val (.long q3), .second, .val (.long q4), .second, .val (.int (Int32.ofNat k0)), .val (.int b0_), .val (.int b1_), .val (.int b2_), .val (.int b3_), .val (.ref b22), .val (.ref b44), .val (.long ((accA 1 k0 (accA 0 k0 q3 (lowA b0_)) (lowA b1_)) ||| (lowA b2_))), .second, .val (.long (accA 1 k0 (accA 0 k0 q4 (highA b0_)) (highA b1_))), .second, .unset] [(.long (highA b2_)), (.long (accA 1 k0 (accA 0 k0 q4 (highA b0_)) (highA b1_)))]) := fun t k => pre71 t (st72 _ k)
      have pre73 : Goes p e below s₁ (entryFrame m #[(.int p1), (.int p2), (.long q3), (.long q4)] maxLocals) T72 (mkF m 191 #[.val (.int p1), .val (.int p2), .val (.long q3), .second, .val (.long q4), .second, .val (.int (Int32.ofNat k0)), .val (.int b0_), .val (.int b1_), .val (.int b2_), .val (.int b3_), .val (.ref b22), .val (.ref b44), .val (.long ((accA 1 k0 (accA 0 k0 q3 (lowA b0_)) (lowA b1_)) ||| (lowA b2_))), .second, .val (.long ((accA 1 k0 (accA 0 k0 q4 (highA b0_)) (highA b1_)) ||| (highA b2_))), .second, .unset] []) := fun t k => pre72 t (by
          refine XS.lor X72.here hx rfl (hb hby at_188) rfl ?_
          show Steps p.tables e below (T72.setTop (mkF m 189 #[.val (.int p1), .val (.int p2), .val (.long q3), .second, .val (.long q4), .second, .val (.int (Int32.ofNat k0)), .val (.int b0_), .val (.int b1_), .val (.int b2_), .val (.int b3_), .val (.ref b22), .val (.ref b44), .val (.long ((accA 1 k0 (accA 0 k0 q3 (lowA b0_)) (lowA b1_)) ||| (lowA b2_))), .second, .val (.long (accA 1 k0 (accA 0 k0 q4 (highA b0_)) (highA b1_))), .second, .unset] [(.long ((accA 1 k0 (accA 0 k0 q4 (highA b0_)) (highA b1_)) ||| (highA b2_)))])) _
          refine XS.lstore X72.here hx rfl (hb hby at_189) rfl (l' := #[.val (.int p1), .val (.int p2), .val (.long q3), .second, .val (.long q4), .second, .val (.int (Int32.ofNat k0)), .val (.int b0_), .val (.int b1_), .val (.int b2_), .val (.int b3_), .val (.ref b22), .val (.ref b44), .val (.long ((accA 1 k0 (accA 0 k0 q3 (lowA b0_)) (lowA b1_)) ||| (lowA b2_))), .second, .val (.long ((accA 1 k0 (accA 0 k0 q4 (highA b0_)) (highA b1_)) ||| (highA b2_))), .second, .unset]) rfl ?_
          show Steps p.tables e below (T72.setTop (mkF m 191 #[.val (.int p1), .val (.int p2), .val (.long q3), .second, .val (.long q4), .second, .val (.int (Int32.ofNat k0)), .val (.int b0_), .val (.int b1_), .val (.int b2_), .val (.int b3_), .val (.ref b22), .val (.ref b44), .val (.long ((accA 1 k0 (accA 0 k0 q3 (lowA b0_)) (lowA b1_)) ||| (lowA b2_))), .second, .val (.long ((accA 1 k0 (accA 0 k0 q4 (highA b0_)) (highA b1_)) ||| (highA b2_))), .second, .unset] [])) _
          exact k)
      exact ⟨_, _, X72, eh72, N72, pre73⟩
    · skip
      rw [show (accA 2 k0 (accA 1 k0 (accA 0 k0 q3 (lowA b0_)) (lowA b1_)) (lowA b2_)) = (accA 1 k0 (accA 0 k0 q3 (lowA b0_)) (lowA b1_)) from if_neg ht2, show (accA 2 k0 (accA 1 k0 (accA 0 k0 q4 (highA b0_)) (highA b1_)) (highA b2_)) = (accA 1 k0 (accA 0 k0 q4 (highA b0_)) (highA b1_)) from if_neg ht2]
      have pre74 : Goes p e below s₁ (entryFrame m #[(.int p1), (.int p2), (.long q3), (.long q4)] maxLocals) T60 (mkF m 191 #[.val (.int p1), .val (.int p2), .val (.long q3), .second, .val (.long q4), .second, .val (.int (Int32.ofNat k0)), .val (.int b0_), .val (.int b1_), .val (.int b2_), .val (.int b3_), .val (.ref b22), .val (.ref b44), .val (.long (accA 1 k0 (accA 0 k0 q3 (lowA b0_)) (lowA b1_))), .second, .val (.long (accA 1 k0 (accA 0 k0 q4 (highA b0_)) (highA b1_))), .second, .unset] []) := fun t k => pre67 t (by
          refine XS.icmpYes X60.here hx rfl (pc0 := 168) (pc' := 191) rfl (hb hby at_168) rfl (flt ht2).2.2.2 (by decide) (by decide) ?_
          show Steps p.tables e below (T60.setTop (mkF m 191 #[.val (.int p1), .val (.int p2), .val (.long q3), .second, .val (.long q4), .second, .val (.int (Int32.ofNat k0)), .val (.int b0_), .val (.int b1_), .val (.int b2_), .val (.int b3_), .val (.ref b22), .val (.ref b44), .val (.long (accA 1 k0 (accA 0 k0 q3 (lowA b0_)) (lowA b1_))), .second, .val (.long (accA 1 k0 (accA 0 k0 q4 (highA b0_)) (highA b1_))), .second, .unset] [])) _
          exact k)
      exact ⟨_, _, X60, e60, N60, pre74⟩
  have pre75 : Goes p e below s₁ (entryFrame m #[(.int p1), (.int p2), (.long q3), (.long q4)] maxLocals) T68 (mkF m 194 #[.val (.int p1), .val (.int p2), .val (.long q3), .second, .val (.long q4), .second, .val (.int (Int32.ofNat k0)), .val (.int b0_), .val (.int b1_), .val (.int b2_), .val (.int b3_), .val (.ref b22), .val (.ref b44), .val (.long (accA 2 k0 (accA 1 k0 (accA 0 k0 q3 (lowA b0_)) (lowA b1_)) (lowA b2_))), .second, .val (.long (accA 2 k0 (accA 1 k0 (accA 0 k0 q4 (highA b0_)) (highA b1_)) (highA b2_))), .second, .unset] [(.int (3 : Int32)), (.int (Int32.ofNat k0))]) := fun t k => pre68 t (by
      refine XS.iload X68.here hx rfl (hb hby at_191) rfl ?_
      show Steps p.tables e below (T68.setTop (mkF m 193 #[.val (.int p1), .val (.int p2), .val (.long q3), .second, .val (.long q4), .second, .val (.int (Int32.ofNat k0)), .val (.int b0_), .val (.int b1_), .val (.int b2_), .val (.int b3_), .val (.ref b22), .val (.ref b44), .val (.long (accA 2 k0 (accA 1 k0 (accA 0 k0 q3 (lowA b0_)) (lowA b1_)) (lowA b2_))), .second, .val (.long (accA 2 k0 (accA 1 k0 (accA 0 k0 q4 (highA b0_)) (highA b1_)) (highA b2_))), .second, .unset] [(.int (Int32.ofNat k0))])) _
      refine XS.iconst X68.here hx rfl (hb hby at_193) ?_
      show Steps p.tables e below (T68.setTop (mkF m 194 #[.val (.int p1), .val (.int p2), .val (.long q3), .second, .val (.long q4), .second, .val (.int (Int32.ofNat k0)), .val (.int b0_), .val (.int b1_), .val (.int b2_), .val (.int b3_), .val (.ref b22), .val (.ref b44), .val (.long (accA 2 k0 (accA 1 k0 (accA 0 k0 q3 (lowA b0_)) (lowA b1_)) (lowA b2_))), .second, .val (.long (accA 2 k0 (accA 1 k0 (accA 0 k0 q4 (highA b0_)) (highA b1_)) (highA b2_))), .second, .unset] [(.int (3 : Int32)), (.int (Int32.ofNat k0))])) _
      exact k)
  obtain ⟨T76, L76, X76, e76, N76, pre76⟩ : ∃ (T' : State) (L' : List Loc), Stand p l e room_1 s m #[(.int p1), (.int p2), (.long q3), (.long q4)] below meth c T' L' 2 6 ∧ T'.heap = T50.heap ∧ Fr n0 L' ∧ Goes p e below s₁ (entryFrame m #[(.int p1), (.int p2), (.long q3), (.long q4)] maxLocals) T' (mkF m 217 #[.val (.int p1), .val (.int p2), .val (.long q3), .second, .val (.long q4), .second, .val (.int (Int32.ofNat k0)), .val (.int b0_), .val (.int b1_), .val (.int b2_), .val (.int b3_), .val (.ref b22), .val (.ref b44), .val (.long (accA 3 k0 (accA 2 k0 (accA 1 k0 (accA 0 k0 q3 (lowA b0_)) (lowA b1_)) (lowA b2_)) (lowA b3_))), .second, .val (.long (accA 3 k0 (accA 2 k0 (accA 1 k0 (accA 0 k0 q4 (highA b0_)) (highA b1_)) (highA b2_)) (highA b3_))), .second, .unset] []) := by
    by_cases ht3 : (3 : Int32) < (Int32.ofNat k0)
    · skip
      rw [show (accA 3 k0 (accA 2 k0 (accA 1 k0 (accA 0 k0 q3 (lowA b0_)) (lowA b1_)) (lowA b2_)) (lowA b3_)) = (accA 2 k0 (accA 1 k0 (accA 0 k0 q3 (lowA b0_)) (lowA b1_)) (lowA b2_)) ||| lowA b3_ from if_pos ht3, show (accA 3 k0 (accA 2 k0 (accA 1 k0 (accA 0 k0 q4 (highA b0_)) (highA b1_)) (highA b2_)) (highA b3_)) = (accA 2 k0 (accA 1 k0 (accA 0 k0 q4 (highA b0_)) (highA b1_)) (highA b2_)) ||| highA b3_ from if_pos ht3]
      have pre77 : Goes p e below s₁ (entryFrame m #[(.int p1), (.int p2), (.long q3), (.long q4)] maxLocals) T68 (mkF m 201 #[.val (.int p1), .val (.int p2), .val (.long q3), .second, .val (.long q4), .second, .val (.int (Int32.ofNat k0)), .val (.int b0_), .val (.int b1_), .val (.int b2_), .val (.int b3_), .val (.ref b22), .val (.ref b44), .val (.long (accA 2 k0 (accA 1 k0 (accA 0 k0 q3 (lowA b0_)) (lowA b1_)) (lowA b2_))), .second, .val (.long (accA 2 k0 (accA 1 k0 (accA 0 k0 q4 (highA b0_)) (highA b1_)) (highA b2_))), .second, .unset] [(.int b3_), (.long (accA 2 k0 (accA 1 k0 (accA 0 k0 q3 (lowA b0_)) (lowA b1_)) (lowA b2_)))]) := fun t k => pre75 t (by
          refine XS.icmpNo X68.here hx rfl (hb hby at_194) rfl (tlt ht3).2.2.2 ?_
          show Steps p.tables e below (T68.setTop (mkF m 197 #[.val (.int p1), .val (.int p2), .val (.long q3), .second, .val (.long q4), .second, .val (.int (Int32.ofNat k0)), .val (.int b0_), .val (.int b1_), .val (.int b2_), .val (.int b3_), .val (.ref b22), .val (.ref b44), .val (.long (accA 2 k0 (accA 1 k0 (accA 0 k0 q3 (lowA b0_)) (lowA b1_)) (lowA b2_))), .second, .val (.long (accA 2 k0 (accA 1 k0 (accA 0 k0 q4 (highA b0_)) (highA b1_)) (highA b2_))), .second, .unset] [])) _
          refine XS.lload X68.here hx rfl (hb hby at_197) rfl ?_
          show Steps p.tables e below (T68.setTop (mkF m 199 #[.val (.int p1), .val (.int p2), .val (.long q3), .second, .val (.long q4), .second, .val (.int (Int32.ofNat k0)), .val (.int b0_), .val (.int b1_), .val (.int b2_), .val (.int b3_), .val (.ref b22), .val (.ref b44), .val (.long (accA 2 k0 (accA 1 k0 (accA 0 k0 q3 (lowA b0_)) (lowA b1_)) (lowA b2_))), .second, .val (.long (accA 2 k0 (accA 1 k0 (accA 0 k0 q4 (highA b0_)) (highA b1_)) (highA b2_))), .second, .unset] [(.long (accA 2 k0 (accA 1 k0 (accA 0 k0 q3 (lowA b0_)) (lowA b1_)) (lowA b2_)))])) _
          refine XS.iload X68.here hx rfl (hb hby at_199) rfl ?_
          show Steps p.tables e below (T68.setTop (mkF m 201 #[.val (.int p1), .val (.int p2), .val (.long q3), .second, .val (.long q4), .second, .val (.int (Int32.ofNat k0)), .val (.int b0_), .val (.int b1_), .val (.int b2_), .val (.int b3_), .val (.ref b22), .val (.ref b44), .val (.long (accA 2 k0 (accA 1 k0 (accA 0 k0 q3 (lowA b0_)) (lowA b1_)) (lowA b2_))), .second, .val (.long (accA 2 k0 (accA 1 k0 (accA 0 k0 q4 (highA b0_)) (highA b1_)) (highA b2_))), .second, .unset] [(.int b3_), (.long (accA 2 k0 (accA 1 k0 (accA 0 k0 q3 (lowA b0_)) (lowA b1_)) (lowA b2_)))])) _
          exact k)
      obtain ⟨_, _, ⟨T78, L78, k78, n78⟩, -, X78, ⟨Lc78, hQ78, l78, y78, z78⟩, st78⟩ := Jvm.LawKit.callS X68 hx (y := (⟨"com/example/sluice/sluice/engine/GatheredMarkPinLaw", "low", "(B)J"⟩ : MethodName)) hown (mvT hZ (hw _ (List.mem_of_getElem? (i := 7) rfl))) (mvT hZ (hw _ (List.mem_of_getElem? (i := 8) rfl))) (mvT hZ (hw _ (List.mem_of_getElem? (i := 9) rfl))) (mvT hZ (hw _ (List.mem_of_getElem? (i := 10) rfl))) (by decide) (backOf (W := 2) (rml l Z a0 hw [] b3_ T50.heap n0 Zb) hZ (hw _ (List.mem_of_getElem? (i := 10) rfl)) (hw _ (List.mem_of_getElem? (i := 9) rfl)) (by decide) (by decide)) (g := (mkF m 201 #[.val (.int p1), .val (.int p2), .val (.long q3), .second, .val (.long q4), .second, .val (.int (Int32.ofNat k0)), .val (.int b0_), .val (.int b1_), .val (.int b2_), .val (.int b3_), .val (.ref b22), .val (.ref b44), .val (.long (accA 2 k0 (accA 1 k0 (accA 0 k0 q3 (lowA b0_)) (lowA b1_)) (lowA b2_))), .second, .val (.long (accA 2 k0 (accA 1 k0 (accA 0 k0 q4 (highA b0_)) (highA b1_)) (highA b2_))), .second, .unset] [(.int b3_), (.long (accA 2 k0 (accA 1 k0 (accA 0 k0 q3 (lowA b0_)) (lowA b1_)) (lowA b2_)))])) rfl (by rw [hml]; rfl) (argsL := [(.int b3_)]) (rest := [(.long (accA 2 k0 (accA 1 k0 (accA 0 k0 q3 (lowA b0_)) (lowA b1_)) (lowA b2_)))]) (lenOf pd_1 rfl) rfl (by show 2 * 0 + _ ≤ _; exact Nat.le_of_eq rfl) (hb hby at_201) (fun _ _ => ⟨rfl, e68, (by decide : 2 + 0 ≤ _), (by decide : 6 + 0 ≤ _)⟩)
      dsimp only [Pt.U, Pt.locs, Pt.cells, Pt.slots] at X78 l78 y78 z78 st78 hQ78
      subst l78 y78 z78
      obtain ⟨rfl, N78q, eh78⟩ := hQ78
      have N78 := Fr.app N68 N78q
      have pre78 : Goes p e below s₁ (entryFrame m #[(.int p1), (.int p2), (.long q3), (.long q4)] maxLocals) T78 (mkF m 204 #[.val (.int p1), .val (.int p2), .val (.long q3), .second, .val (.long q4), .second, .val (.int (Int32.ofNat k0)), .val (.int b0_), .val (.int b1_), .val (.int b2_), .val (.int b3_), .val (.ref b22), .val (.ref b44), .val (.long (accA 2 k0 (accA 1 k0 (accA 0 k0 q3 (lowA b0_)) (lowA b1_)) (lowA b2_))), .second, .val (.long (accA 2 k0 (accA 1 k0 (accA 0 k0 q4 (highA b0_)) (highA b1_)) (highA b2_))), .second, .unset] [(.long (lowA b3_)), (.long (accA 2 k0 (accA 1 k0 (accA 0 k0 q3 (lowA b0_)) (lowA b1_)) (lowA b2_)))]) := fun t k => pre77 t (st78 _ k)
      have pre79 : Goes p e below s₁ (entryFrame m #[(.int p1), (.int p2), (.long q3), (.long q4)] maxLocals) T78 (mkF m 211 #[.val (.int p1), .val (.int p2), .val (.long q3), .second, .val (.long q4), .second, .val (.int (Int32.ofNat k0)), .val (.int b0_), .val (.int b1_), .val (.int b2_), .val (.int b3_), .val (.ref b22), .val (.ref b44), .val (.long ((accA 2 k0 (accA 1 k0 (accA 0 k0 q3 (lowA b0_)) (lowA b1_)) (lowA b2_)) ||| (lowA b3_))), .second, .val (.long (accA 2 k0 (accA 1 k0 (accA 0 k0 q4 (highA b0_)) (highA b1_)) (highA b2_))), .second, .unset] [(.int b3_), (.long (accA 2 k0 (accA 1 k0 (accA 0 k0 q4 (highA b0_)) (highA b1_)) (highA b2_)))]) := fun t k => pre78 t (by
          refine XS.lor X78.here hx rfl (hb hby at_204) rfl ?_
          show Steps p.tables e below (T78.setTop (mkF m 205 #[.val (.int p1), .val (.int p2), .val (.long q3), .second, .val (.long q4), .second, .val (.int (Int32.ofNat k0)), .val (.int b0_), .val (.int b1_), .val (.int b2_), .val (.int b3_), .val (.ref b22), .val (.ref b44), .val (.long (accA 2 k0 (accA 1 k0 (accA 0 k0 q3 (lowA b0_)) (lowA b1_)) (lowA b2_))), .second, .val (.long (accA 2 k0 (accA 1 k0 (accA 0 k0 q4 (highA b0_)) (highA b1_)) (highA b2_))), .second, .unset] [(.long ((accA 2 k0 (accA 1 k0 (accA 0 k0 q3 (lowA b0_)) (lowA b1_)) (lowA b2_)) ||| (lowA b3_)))])) _
          refine XS.lstore X78.here hx rfl (hb hby at_205) rfl (l' := #[.val (.int p1), .val (.int p2), .val (.long q3), .second, .val (.long q4), .second, .val (.int (Int32.ofNat k0)), .val (.int b0_), .val (.int b1_), .val (.int b2_), .val (.int b3_), .val (.ref b22), .val (.ref b44), .val (.long ((accA 2 k0 (accA 1 k0 (accA 0 k0 q3 (lowA b0_)) (lowA b1_)) (lowA b2_)) ||| (lowA b3_))), .second, .val (.long (accA 2 k0 (accA 1 k0 (accA 0 k0 q4 (highA b0_)) (highA b1_)) (highA b2_))), .second, .unset]) rfl ?_
          show Steps p.tables e below (T78.setTop (mkF m 207 #[.val (.int p1), .val (.int p2), .val (.long q3), .second, .val (.long q4), .second, .val (.int (Int32.ofNat k0)), .val (.int b0_), .val (.int b1_), .val (.int b2_), .val (.int b3_), .val (.ref b22), .val (.ref b44), .val (.long ((accA 2 k0 (accA 1 k0 (accA 0 k0 q3 (lowA b0_)) (lowA b1_)) (lowA b2_)) ||| (lowA b3_))), .second, .val (.long (accA 2 k0 (accA 1 k0 (accA 0 k0 q4 (highA b0_)) (highA b1_)) (highA b2_))), .second, .unset] [])) _
          refine XS.lload X78.here hx rfl (hb hby at_207) rfl ?_
          show Steps p.tables e below (T78.setTop (mkF m 209 #[.val (.int p1), .val (.int p2), .val (.long q3), .second, .val (.long q4), .second, .val (.int (Int32.ofNat k0)), .val (.int b0_), .val (.int b1_), .val (.int b2_), .val (.int b3_), .val (.ref b22), .val (.ref b44), .val (.long ((accA 2 k0 (accA 1 k0 (accA 0 k0 q3 (lowA b0_)) (lowA b1_)) (lowA b2_)) ||| (lowA b3_))), .second, .val (.long (accA 2 k0 (accA 1 k0 (accA 0 k0 q4 (highA b0_)) (highA b1_)) (highA b2_))), .second, .unset] [(.long (accA 2 k0 (accA 1 k0 (accA 0 k0 q4 (highA b0_)) (highA b1_)) (highA b2_)))])) _
          refine XS.iload X78.here hx rfl (hb hby at_209) rfl ?_
          show Steps p.tables e below (T78.setTop (mkF m 211 #[.val (.int p1), .val (.int p2), .val (.long q3), .second, .val (.long q4), .second, .val (.int (Int32.ofNat k0)), .val (.int b0_), .val (.int b1_), .val (.int b2_), .val (.int b3_), .val (.ref b22), .val (.ref b44), .val (.long ((accA 2 k0 (accA 1 k0 (accA 0 k0 q3 (lowA b0_)) (lowA b1_)) (lowA b2_)) ||| (lowA b3_))), .second, .val (.long (accA 2 k0 (accA 1 k0 (accA 0 k0 q4 (highA b0_)) (highA b1_)) (highA b2_))), .second, .unset] [(.int b3_), (.long (accA 2 k0 (accA 1 k0 (accA 0 k0 q4 (highA b0_)) (highA b1_)) (highA b2_)))])) _
          exact k)
      obtain ⟨_, _, ⟨T80, L80, k80, n80⟩, -, X80, ⟨Lc80, hQ80, l80, y80, z80⟩, st80⟩ := Jvm.LawKit.callS X78 hx (y := (⟨"com/example/sluice/sluice/engine/GatheredMarkPinLaw", "high", "(B)J"⟩ : MethodName)) hown (mvT hZ (hw _ (List.mem_of_getElem? (i := 11) rfl))) (mvT hZ (hw _ (List.mem_of_getElem? (i := 12) rfl))) (mvT hZ (hw _ (List.mem_of_getElem? (i := 9) rfl))) (mvT hZ (hw _ (List.mem_of_getElem? (i := 13) rfl))) (by decide) (backOf (W := 2) (rmh l Z a0 hw [] b3_ T50.heap n0 Zb) hZ (hw _ (List.mem_of_getElem? (i := 13) rfl)) (hw _ (List.mem_of_getElem? (i := 9) rfl)) (by decide) (by decide)) (g := (mkF m 211 #[.val (.int p1), .val (.int p2), .val (.long q3), .second, .val (.long q4), .second, .val (.int (Int32.ofNat k0)), .val (.int b0_), .val (.int b1_), .val (.int b2_), .val (.int b3_), .val (.ref b22), .val (.ref b44), .val (.long ((accA 2 k0 (accA 1 k0 (accA 0 k0 q3 (lowA b0_)) (lowA b1_)) (lowA b2_)) ||| (lowA b3_))), .second, .val (.long (accA 2 k0 (accA 1 k0 (accA 0 k0 q4 (highA b0_)) (highA b1_)) (highA b2_))), .second, .unset] [(.int b3_), (.long (accA 2 k0 (accA 1 k0 (accA 0 k0 q4 (highA b0_)) (highA b1_)) (highA b2_)))])) rfl (by rw [hml]; rfl) (argsL := [(.int b3_)]) (rest := [(.long (accA 2 k0 (accA 1 k0 (accA 0 k0 q4 (highA b0_)) (highA b1_)) (highA b2_)))]) (lenOf pd_1 rfl) rfl (by show 2 * 0 + _ ≤ _; exact Nat.le_of_eq rfl) (hb hby at_211) (fun _ _ => ⟨rfl, eh78, (by decide : 2 + 0 ≤ _), (by decide : 6 + 0 ≤ _)⟩)
      dsimp only [Pt.U, Pt.locs, Pt.cells, Pt.slots] at X80 l80 y80 z80 st80 hQ80
      subst l80 y80 z80
      obtain ⟨rfl, N80q, eh80⟩ := hQ80
      have N80 := Fr.app N78 N80q
      have pre80 : Goes p e below s₁ (entryFrame m #[(.int p1), (.int p2), (.long q3), (.long q4)] maxLocals) T80 (mkF m 214 #[.val (.int p1), .val (.int p2), .val (.long q3), .second, .val (.long q4), .second, .val (.int (Int32.ofNat k0)), .val (.int b0_), .val (.int b1_), .val (.int b2_), .val (.int b3_), .val (.ref b22), .val (.ref b44), .val (.long ((accA 2 k0 (accA 1 k0 (accA 0 k0 q3 (lowA b0_)) (lowA b1_)) (lowA b2_)) ||| (lowA b3_))), .second, .val (.long (accA 2 k0 (accA 1 k0 (accA 0 k0 q4 (highA b0_)) (highA b1_)) (highA b2_))), .second, .unset] [(.long (highA b3_)), (.long (accA 2 k0 (accA 1 k0 (accA 0 k0 q4 (highA b0_)) (highA b1_)) (highA b2_)))]) := fun t k => pre79 t (st80 _ k)
      have pre81 : Goes p e below s₁ (entryFrame m #[(.int p1), (.int p2), (.long q3), (.long q4)] maxLocals) T80 (mkF m 217 #[.val (.int p1), .val (.int p2), .val (.long q3), .second, .val (.long q4), .second, .val (.int (Int32.ofNat k0)), .val (.int b0_), .val (.int b1_), .val (.int b2_), .val (.int b3_), .val (.ref b22), .val (.ref b44), .val (.long ((accA 2 k0 (accA 1 k0 (accA 0 k0 q3 (lowA b0_)) (lowA b1_)) (lowA b2_)) ||| (lowA b3_))), .second, .val (.long ((accA 2 k0 (accA 1 k0 (accA 0 k0 q4 (highA b0_)) (highA b1_)) (highA b2_)) ||| (highA b3_))), .second, .unset] []) := fun t k => pre80 t (by
          refine XS.lor X80.here hx rfl (hb hby at_214) rfl ?_
          show Steps p.tables e below (T80.setTop (mkF m 215 #[.val (.int p1), .val (.int p2), .val (.long q3), .second, .val (.long q4), .second, .val (.int (Int32.ofNat k0)), .val (.int b0_), .val (.int b1_), .val (.int b2_), .val (.int b3_), .val (.ref b22), .val (.ref b44), .val (.long ((accA 2 k0 (accA 1 k0 (accA 0 k0 q3 (lowA b0_)) (lowA b1_)) (lowA b2_)) ||| (lowA b3_))), .second, .val (.long (accA 2 k0 (accA 1 k0 (accA 0 k0 q4 (highA b0_)) (highA b1_)) (highA b2_))), .second, .unset] [(.long ((accA 2 k0 (accA 1 k0 (accA 0 k0 q4 (highA b0_)) (highA b1_)) (highA b2_)) ||| (highA b3_)))])) _
          refine XS.lstore X80.here hx rfl (hb hby at_215) rfl (l' := #[.val (.int p1), .val (.int p2), .val (.long q3), .second, .val (.long q4), .second, .val (.int (Int32.ofNat k0)), .val (.int b0_), .val (.int b1_), .val (.int b2_), .val (.int b3_), .val (.ref b22), .val (.ref b44), .val (.long ((accA 2 k0 (accA 1 k0 (accA 0 k0 q3 (lowA b0_)) (lowA b1_)) (lowA b2_)) ||| (lowA b3_))), .second, .val (.long ((accA 2 k0 (accA 1 k0 (accA 0 k0 q4 (highA b0_)) (highA b1_)) (highA b2_)) ||| (highA b3_))), .second, .unset]) rfl ?_
          show Steps p.tables e below (T80.setTop (mkF m 217 #[.val (.int p1), .val (.int p2), .val (.long q3), .second, .val (.long q4), .second, .val (.int (Int32.ofNat k0)), .val (.int b0_), .val (.int b1_), .val (.int b2_), .val (.int b3_), .val (.ref b22), .val (.ref b44), .val (.long ((accA 2 k0 (accA 1 k0 (accA 0 k0 q3 (lowA b0_)) (lowA b1_)) (lowA b2_)) ||| (lowA b3_))), .second, .val (.long ((accA 2 k0 (accA 1 k0 (accA 0 k0 q4 (highA b0_)) (highA b1_)) (highA b2_)) ||| (highA b3_))), .second, .unset] [])) _
          exact k)
      exact ⟨_, _, X80, eh80, N80, pre81⟩
    · skip
      rw [show (accA 3 k0 (accA 2 k0 (accA 1 k0 (accA 0 k0 q3 (lowA b0_)) (lowA b1_)) (lowA b2_)) (lowA b3_)) = (accA 2 k0 (accA 1 k0 (accA 0 k0 q3 (lowA b0_)) (lowA b1_)) (lowA b2_)) from if_neg ht3, show (accA 3 k0 (accA 2 k0 (accA 1 k0 (accA 0 k0 q4 (highA b0_)) (highA b1_)) (highA b2_)) (highA b3_)) = (accA 2 k0 (accA 1 k0 (accA 0 k0 q4 (highA b0_)) (highA b1_)) (highA b2_)) from if_neg ht3]
      have pre82 : Goes p e below s₁ (entryFrame m #[(.int p1), (.int p2), (.long q3), (.long q4)] maxLocals) T68 (mkF m 217 #[.val (.int p1), .val (.int p2), .val (.long q3), .second, .val (.long q4), .second, .val (.int (Int32.ofNat k0)), .val (.int b0_), .val (.int b1_), .val (.int b2_), .val (.int b3_), .val (.ref b22), .val (.ref b44), .val (.long (accA 2 k0 (accA 1 k0 (accA 0 k0 q3 (lowA b0_)) (lowA b1_)) (lowA b2_))), .second, .val (.long (accA 2 k0 (accA 1 k0 (accA 0 k0 q4 (highA b0_)) (highA b1_)) (highA b2_))), .second, .unset] []) := fun t k => pre75 t (by
          refine XS.icmpYes X68.here hx rfl (pc0 := 194) (pc' := 217) rfl (hb hby at_194) rfl (flt ht3).2.2.2 (by decide) (by decide) ?_
          show Steps p.tables e below (T68.setTop (mkF m 217 #[.val (.int p1), .val (.int p2), .val (.long q3), .second, .val (.long q4), .second, .val (.int (Int32.ofNat k0)), .val (.int b0_), .val (.int b1_), .val (.int b2_), .val (.int b3_), .val (.ref b22), .val (.ref b44), .val (.long (accA 2 k0 (accA 1 k0 (accA 0 k0 q3 (lowA b0_)) (lowA b1_)) (lowA b2_))), .second, .val (.long (accA 2 k0 (accA 1 k0 (accA 0 k0 q4 (highA b0_)) (highA b1_)) (highA b2_))), .second, .unset] [])) _
          exact k)
      exact ⟨_, _, X68, e68, N68, pre82⟩
  have pre83 : Goes p e below s₁ (entryFrame m #[(.int p1), (.int p2), (.long q3), (.long q4)] maxLocals) T76 (mkF m 228 #[.val (.int p1), .val (.int p2), .val (.long q3), .second, .val (.long q4), .second, .val (.int (Int32.ofNat k0)), .val (.int b0_), .val (.int b1_), .val (.int b2_), .val (.int b3_), .val (.ref b22), .val (.ref b44), .val (.long (accA 3 k0 (accA 2 k0 (accA 1 k0 (accA 0 k0 q3 (lowA b0_)) (lowA b1_)) (lowA b2_)) (lowA b3_))), .second, .val (.long (accA 3 k0 (accA 2 k0 (accA 1 k0 (accA 0 k0 q4 (highA b0_)) (highA b1_)) (highA b2_)) (highA b3_))), .second, .unset] [(.int (1 : Int32)), (.int (Int32.ofNat k0))]) := fun t k => pre76 t (by
      refine XS.aload X76.here hx rfl (hb hby at_217) rfl rfl ?_
      show Steps p.tables e below (T76.setTop (mkF m 219 #[.val (.int p1), .val (.int p2), .val (.long q3), .second, .val (.long q4), .second, .val (.int (Int32.ofNat k0)), .val (.int b0_), .val (.int b1_), .val (.int b2_), .val (.int b3_), .val (.ref b22), .val (.ref b44), .val (.long (accA 3 k0 (accA 2 k0 (accA 1 k0 (accA 0 k0 q3 (lowA b0_)) (lowA b1_)) (lowA b2_)) (lowA b3_))), .second, .val (.long (accA 3 k0 (accA 2 k0 (accA 1 k0 (accA 0 k0 q4 (highA b0_)) (highA b1_)) (highA b2_)) (highA b3_))), .second, .unset] [(.ref b22)])) _
      refine X76.arraylength hx (by rw [e76]; exact A1.1) (State.isArrayOf_alike hZ.alike A1.2.1) (g := (mkF m 219 #[.val (.int p1), .val (.int p2), .val (.long q3), .second, .val (.long q4), .second, .val (.int (Int32.ofNat k0)), .val (.int b0_), .val (.int b1_), .val (.int b2_), .val (.int b3_), .val (.ref b22), .val (.ref b44), .val (.long (accA 3 k0 (accA 2 k0 (accA 1 k0 (accA 0 k0 q3 (lowA b0_)) (lowA b1_)) (lowA b2_)) (lowA b3_))), .second, .val (.long (accA 3 k0 (accA 2 k0 (accA 1 k0 (accA 0 k0 q4 (highA b0_)) (highA b1_)) (highA b2_)) (highA b3_))), .second, .unset] [(.ref b22)])) rfl rfl (hb hby at_219) _ ?_
      rw [(show c1.slots.size.toInt32 = (Int32.ofNat k0) by rw [size_of_list l1]; simp only [List.length_set, List.length_replicate])]
      show Steps p.tables e below (T76.setTop (mkF m 220 #[.val (.int p1), .val (.int p2), .val (.long q3), .second, .val (.long q4), .second, .val (.int (Int32.ofNat k0)), .val (.int b0_), .val (.int b1_), .val (.int b2_), .val (.int b3_), .val (.ref b22), .val (.ref b44), .val (.long (accA 3 k0 (accA 2 k0 (accA 1 k0 (accA 0 k0 q3 (lowA b0_)) (lowA b1_)) (lowA b2_)) (lowA b3_))), .second, .val (.long (accA 3 k0 (accA 2 k0 (accA 1 k0 (accA 0 k0 q4 (highA b0_)) (highA b1_)) (highA b2_)) (highA b3_))), .second, .unset] [(.int (Int32.ofNat k0))])) _
      refine XS.iload X76.here hx rfl (hb hby at_220) rfl ?_
      show Steps p.tables e below (T76.setTop (mkF m 222 #[.val (.int p1), .val (.int p2), .val (.long q3), .second, .val (.long q4), .second, .val (.int (Int32.ofNat k0)), .val (.int b0_), .val (.int b1_), .val (.int b2_), .val (.int b3_), .val (.ref b22), .val (.ref b44), .val (.long (accA 3 k0 (accA 2 k0 (accA 1 k0 (accA 0 k0 q3 (lowA b0_)) (lowA b1_)) (lowA b2_)) (lowA b3_))), .second, .val (.long (accA 3 k0 (accA 2 k0 (accA 1 k0 (accA 0 k0 q4 (highA b0_)) (highA b1_)) (highA b2_)) (highA b3_))), .second, .unset] [(.int (Int32.ofNat k0)), (.int (Int32.ofNat k0))])) _
      refine XS.icmpNo X76.here hx rfl (hb hby at_222) rfl (teq rfl).2 ?_
      show Steps p.tables e below (T76.setTop (mkF m 225 #[.val (.int p1), .val (.int p2), .val (.long q3), .second, .val (.long q4), .second, .val (.int (Int32.ofNat k0)), .val (.int b0_), .val (.int b1_), .val (.int b2_), .val (.int b3_), .val (.ref b22), .val (.ref b44), .val (.long (accA 3 k0 (accA 2 k0 (accA 1 k0 (accA 0 k0 q3 (lowA b0_)) (lowA b1_)) (lowA b2_)) (lowA b3_))), .second, .val (.long (accA 3 k0 (accA 2 k0 (accA 1 k0 (accA 0 k0 q4 (highA b0_)) (highA b1_)) (highA b2_)) (highA b3_))), .second, .unset] [])) _
      refine XS.iload X76.here hx rfl (hb hby at_225) rfl ?_
      show Steps p.tables e below (T76.setTop (mkF m 227 #[.val (.int p1), .val (.int p2), .val (.long q3), .second, .val (.long q4), .second, .val (.int (Int32.ofNat k0)), .val (.int b0_), .val (.int b1_), .val (.int b2_), .val (.int b3_), .val (.ref b22), .val (.ref b44), .val (.long (accA 3 k0 (accA 2 k0 (accA 1 k0 (accA 0 k0 q3 (lowA b0_)) (lowA b1_)) (lowA b2_)) (lowA b3_))), .second, .val (.long (accA 3 k0 (accA 2 k0 (accA 1 k0 (accA 0 k0 q4 (highA b0_)) (highA b1_)) (highA b2_)) (highA b3_))), .second, .unset] [(.int (Int32.ofNat k0))])) _
      refine XS.iconst X76.here hx rfl (hb hby at_227) ?_
      show Steps p.tables e below (T76.setTop (mkF m 228 #[.val (.int p1), .val (.int p2), .val (.long q3), .second, .val (.long q4), .second, .val (.int (Int32.ofNat k0)), .val (.int b0_), .val (.int b1_), .val (.int b2_), .val (.int b3_), .val (.ref b22), .val (.ref b44), .val (.long (accA 3 k0 (accA 2 k0 (accA 1 k0 (accA 0 k0 q3 (lowA b0_)) (lowA b1_)) (lowA b2_)) (lowA b3_))), .second, .val (.long (accA 3 k0 (accA 2 k0 (accA 1 k0 (accA 0 k0 q4 (highA b0_)) (highA b1_)) (highA b2_)) (highA b3_))), .second, .unset] [(.int (1 : Int32)), (.int (Int32.ofNat k0))])) _
      exact k)
  have pre84 : Goes p e below s₁ (entryFrame m #[(.int p1), (.int p2), (.long q3), (.long q4)] maxLocals) T76 (mkF m 240 #[.val (.int p1), .val (.int p2), .val (.long q3), .second, .val (.long q4), .second, .val (.int (Int32.ofNat k0)), .val (.int b0_), .val (.int b1_), .val (.int b2_), .val (.int b3_), .val (.ref b22), .val (.ref b44), .val (.long (accA 3 k0 (accA 2 k0 (accA 1 k0 (accA 0 k0 q3 (lowA b0_)) (lowA b1_)) (lowA b2_)) (lowA b3_))), .second, .val (.long (accA 3 k0 (accA 2 k0 (accA 1 k0 (accA 0 k0 q4 (highA b0_)) (highA b1_)) (highA b2_)) (highA b3_))), .second, .unset] []) := by
    by_cases hu0 : (Int32.ofNat k0) < (1 : Int32)
    · skip
      have pre85 : Goes p e below s₁ (entryFrame m #[(.int p1), (.int p2), (.long q3), (.long q4)] maxLocals) T76 (mkF m 240 #[.val (.int p1), .val (.int p2), .val (.long q3), .second, .val (.long q4), .second, .val (.int (Int32.ofNat k0)), .val (.int b0_), .val (.int b1_), .val (.int b2_), .val (.int b3_), .val (.ref b22), .val (.ref b44), .val (.long (accA 3 k0 (accA 2 k0 (accA 1 k0 (accA 0 k0 q3 (lowA b0_)) (lowA b1_)) (lowA b2_)) (lowA b3_))), .second, .val (.long (accA 3 k0 (accA 2 k0 (accA 1 k0 (accA 0 k0 q4 (highA b0_)) (highA b1_)) (highA b2_)) (highA b3_))), .second, .unset] []) := fun t k => pre83 t (by
          refine XS.icmpYes X76.here hx rfl (pc0 := 228) (pc' := 240) rfl (hb hby at_228) rfl (tlt hu0).1 (by decide) (by decide) ?_
          show Steps p.tables e below (T76.setTop (mkF m 240 #[.val (.int p1), .val (.int p2), .val (.long q3), .second, .val (.long q4), .second, .val (.int (Int32.ofNat k0)), .val (.int b0_), .val (.int b1_), .val (.int b2_), .val (.int b3_), .val (.ref b22), .val (.ref b44), .val (.long (accA 3 k0 (accA 2 k0 (accA 1 k0 (accA 0 k0 q3 (lowA b0_)) (lowA b1_)) (lowA b2_)) (lowA b3_))), .second, .val (.long (accA 3 k0 (accA 2 k0 (accA 1 k0 (accA 0 k0 q4 (highA b0_)) (highA b1_)) (highA b2_)) (highA b3_))), .second, .unset] [])) _
          exact k)
      exact pre85
    · skip
      have hlt : 0 < k0 := Nat.lt_of_not_le fun q => hu0 (own_ofNat (i := k0) (n := 1) (by omega) (by omega))
      have hin : ¬ ((0 : Int32) < 0 ∨ c1.slots.size ≤ (0 : Int32).toNatClampNeg) := by rw [size_of_list l1, show (0 : Int32).toNatClampNeg = 0 from rfl]; simp only [List.length_set, List.length_replicate]; exact fun q => q.elim (by decide) (Nat.not_le.mpr hlt)
      have hat : c1.slots[(0 : Int32).toNatClampNeg]? = some (.int b0_) := by
        have q := slot_of_list (j := 0) l1 (by simp only [List.length_set, List.length_replicate]; exact hlt)
        rw [show (((((List.replicate k0 (0 : Int32)).set 0 b0_).set 1 b1_).set 2 b2_).set 3 b3_) = [b0_, b1_, b2_, b3_].take k0 from own_bytes hk0 b0_ b1_ b2_ b3_] at q
        have : k0 = 0 ∨ k0 = 1 ∨ k0 = 2 ∨ k0 = 3 ∨ k0 = 4 := by omega
        rcases this with rfl | rfl | rfl | rfl | rfl <;> first | exact q | omega
      have pre86 : Goes p e below s₁ (entryFrame m #[(.int p1), (.int p2), (.long q3), (.long q4)] maxLocals) T76 (mkF m 240 #[.val (.int p1), .val (.int p2), .val (.long q3), .second, .val (.long q4), .second, .val (.int (Int32.ofNat k0)), .val (.int b0_), .val (.int b1_), .val (.int b2_), .val (.int b3_), .val (.ref b22), .val (.ref b44), .val (.long (accA 3 k0 (accA 2 k0 (accA 1 k0 (accA 0 k0 q3 (lowA b0_)) (lowA b1_)) (lowA b2_)) (lowA b3_))), .second, .val (.long (accA 3 k0 (accA 2 k0 (accA 1 k0 (accA 0 k0 q4 (highA b0_)) (highA b1_)) (highA b2_)) (highA b3_))), .second, .unset] []) := fun t k => pre83 t (by
          refine XS.icmpNo X76.here hx rfl (hb hby at_228) rfl (flt hu0).1 ?_
          show Steps p.tables e below (T76.setTop (mkF m 231 #[.val (.int p1), .val (.int p2), .val (.long q3), .second, .val (.long q4), .second, .val (.int (Int32.ofNat k0)), .val (.int b0_), .val (.int b1_), .val (.int b2_), .val (.int b3_), .val (.ref b22), .val (.ref b44), .val (.long (accA 3 k0 (accA 2 k0 (accA 1 k0 (accA 0 k0 q3 (lowA b0_)) (lowA b1_)) (lowA b2_)) (lowA b3_))), .second, .val (.long (accA 3 k0 (accA 2 k0 (accA 1 k0 (accA 0 k0 q4 (highA b0_)) (highA b1_)) (highA b2_)) (highA b3_))), .second, .unset] [])) _
          refine XS.aload X76.here hx rfl (hb hby at_231) rfl rfl ?_
          show Steps p.tables e below (T76.setTop (mkF m 233 #[.val (.int p1), .val (.int p2), .val (.long q3), .second, .val (.long q4), .second, .val (.int (Int32.ofNat k0)), .val (.int b0_), .val (.int b1_), .val (.int b2_), .val (.int b3_), .val (.ref b22), .val (.ref b44), .val (.long (accA 3 k0 (accA 2 k0 (accA 1 k0 (accA 0 k0 q3 (lowA b0_)) (lowA b1_)) (lowA b2_)) (lowA b3_))), .second, .val (.long (accA 3 k0 (accA 2 k0 (accA 1 k0 (accA 0 k0 q4 (highA b0_)) (highA b1_)) (highA b2_)) (highA b3_))), .second, .unset] [(.ref b22)])) _
          refine XS.iconst X76.here hx rfl (hb hby at_233) ?_
          show Steps p.tables e below (T76.setTop (mkF m 234 #[.val (.int p1), .val (.int p2), .val (.long q3), .second, .val (.long q4), .second, .val (.int (Int32.ofNat k0)), .val (.int b0_), .val (.int b1_), .val (.int b2_), .val (.int b3_), .val (.ref b22), .val (.ref b44), .val (.long (accA 3 k0 (accA 2 k0 (accA 1 k0 (accA 0 k0 q3 (lowA b0_)) (lowA b1_)) (lowA b2_)) (lowA b3_))), .second, .val (.long (accA 3 k0 (accA 2 k0 (accA 1 k0 (accA 0 k0 q4 (highA b0_)) (highA b1_)) (highA b2_)) (highA b3_))), .second, .unset] [(.int (0 : Int32)), (.ref b22)])) _
          refine X76.baloadBytes hx (j := (0 : Int32)) (v := (.int b0_)) (by rw [e76]; exact A1.1) (State.isArrayOf_alike hZ.alike A1.2.1) A1.2.2 hin hat (g := (mkF m 234 #[.val (.int p1), .val (.int p2), .val (.long q3), .second, .val (.long q4), .second, .val (.int (Int32.ofNat k0)), .val (.int b0_), .val (.int b1_), .val (.int b2_), .val (.int b3_), .val (.ref b22), .val (.ref b44), .val (.long (accA 3 k0 (accA 2 k0 (accA 1 k0 (accA 0 k0 q3 (lowA b0_)) (lowA b1_)) (lowA b2_)) (lowA b3_))), .second, .val (.long (accA 3 k0 (accA 2 k0 (accA 1 k0 (accA 0 k0 q4 (highA b0_)) (highA b1_)) (highA b2_)) (highA b3_))), .second, .unset] [(.int (0 : Int32)), (.ref b22)])) rfl rfl (hb hby at_234) _ ?_
          show Steps p.tables e below (T76.setTop (mkF m 235 #[.val (.int p1), .val (.int p2), .val (.long q3), .second, .val (.long q4), .second, .val (.int (Int32.ofNat k0)), .val (.int b0_), .val (.int b1_), .val (.int b2_), .val (.int b3_), .val (.ref b22), .val (.ref b44), .val (.long (accA 3 k0 (accA 2 k0 (accA 1 k0 (accA 0 k0 q3 (lowA b0_)) (lowA b1_)) (lowA b2_)) (lowA b3_))), .second, .val (.long (accA 3 k0 (accA 2 k0 (accA 1 k0 (accA 0 k0 q4 (highA b0_)) (highA b1_)) (highA b2_)) (highA b3_))), .second, .unset] [(.int b0_)])) _
          refine XS.iload X76.here hx rfl (hb hby at_235) rfl ?_
          show Steps p.tables e below (T76.setTop (mkF m 237 #[.val (.int p1), .val (.int p2), .val (.long q3), .second, .val (.long q4), .second, .val (.int (Int32.ofNat k0)), .val (.int b0_), .val (.int b1_), .val (.int b2_), .val (.int b3_), .val (.ref b22), .val (.ref b44), .val (.long (accA 3 k0 (accA 2 k0 (accA 1 k0 (accA 0 k0 q3 (lowA b0_)) (lowA b1_)) (lowA b2_)) (lowA b3_))), .second, .val (.long (accA 3 k0 (accA 2 k0 (accA 1 k0 (accA 0 k0 q4 (highA b0_)) (highA b1_)) (highA b2_)) (highA b3_))), .second, .unset] [(.int b0_), (.int b0_)])) _
          refine XS.icmpNo X76.here hx rfl (hb hby at_237) rfl (teq rfl).2 ?_
          show Steps p.tables e below (T76.setTop (mkF m 240 #[.val (.int p1), .val (.int p2), .val (.long q3), .second, .val (.long q4), .second, .val (.int (Int32.ofNat k0)), .val (.int b0_), .val (.int b1_), .val (.int b2_), .val (.int b3_), .val (.ref b22), .val (.ref b44), .val (.long (accA 3 k0 (accA 2 k0 (accA 1 k0 (accA 0 k0 q3 (lowA b0_)) (lowA b1_)) (lowA b2_)) (lowA b3_))), .second, .val (.long (accA 3 k0 (accA 2 k0 (accA 1 k0 (accA 0 k0 q4 (highA b0_)) (highA b1_)) (highA b2_)) (highA b3_))), .second, .unset] [])) _
          exact k)
      exact pre86
  have pre87 : Goes p e below s₁ (entryFrame m #[(.int p1), (.int p2), (.long q3), (.long q4)] maxLocals) T76 (mkF m 243 #[.val (.int p1), .val (.int p2), .val (.long q3), .second, .val (.long q4), .second, .val (.int (Int32.ofNat k0)), .val (.int b0_), .val (.int b1_), .val (.int b2_), .val (.int b3_), .val (.ref b22), .val (.ref b44), .val (.long (accA 3 k0 (accA 2 k0 (accA 1 k0 (accA 0 k0 q3 (lowA b0_)) (lowA b1_)) (lowA b2_)) (lowA b3_))), .second, .val (.long (accA 3 k0 (accA 2 k0 (accA 1 k0 (accA 0 k0 q4 (highA b0_)) (highA b1_)) (highA b2_)) (highA b3_))), .second, .unset] [(.int (2 : Int32)), (.int (Int32.ofNat k0))]) := fun t k => pre84 t (by
      refine XS.iload X76.here hx rfl (hb hby at_240) rfl ?_
      show Steps p.tables e below (T76.setTop (mkF m 242 #[.val (.int p1), .val (.int p2), .val (.long q3), .second, .val (.long q4), .second, .val (.int (Int32.ofNat k0)), .val (.int b0_), .val (.int b1_), .val (.int b2_), .val (.int b3_), .val (.ref b22), .val (.ref b44), .val (.long (accA 3 k0 (accA 2 k0 (accA 1 k0 (accA 0 k0 q3 (lowA b0_)) (lowA b1_)) (lowA b2_)) (lowA b3_))), .second, .val (.long (accA 3 k0 (accA 2 k0 (accA 1 k0 (accA 0 k0 q4 (highA b0_)) (highA b1_)) (highA b2_)) (highA b3_))), .second, .unset] [(.int (Int32.ofNat k0))])) _
      refine XS.iconst X76.here hx rfl (hb hby at_242) ?_
      show Steps p.tables e below (T76.setTop (mkF m 243 #[.val (.int p1), .val (.int p2), .val (.long q3), .second, .val (.long q4), .second, .val (.int (Int32.ofNat k0)), .val (.int b0_), .val (.int b1_), .val (.int b2_), .val (.int b3_), .val (.ref b22), .val (.ref b44), .val (.long (accA 3 k0 (accA 2 k0 (accA 1 k0 (accA 0 k0 q3 (lowA b0_)) (lowA b1_)) (lowA b2_)) (lowA b3_))), .second, .val (.long (accA 3 k0 (accA 2 k0 (accA 1 k0 (accA 0 k0 q4 (highA b0_)) (highA b1_)) (highA b2_)) (highA b3_))), .second, .unset] [(.int (2 : Int32)), (.int (Int32.ofNat k0))])) _
      exact k)
  have pre88 : Goes p e below s₁ (entryFrame m #[(.int p1), (.int p2), (.long q3), (.long q4)] maxLocals) T76 (mkF m 255 #[.val (.int p1), .val (.int p2), .val (.long q3), .second, .val (.long q4), .second, .val (.int (Int32.ofNat k0)), .val (.int b0_), .val (.int b1_), .val (.int b2_), .val (.int b3_), .val (.ref b22), .val (.ref b44), .val (.long (accA 3 k0 (accA 2 k0 (accA 1 k0 (accA 0 k0 q3 (lowA b0_)) (lowA b1_)) (lowA b2_)) (lowA b3_))), .second, .val (.long (accA 3 k0 (accA 2 k0 (accA 1 k0 (accA 0 k0 q4 (highA b0_)) (highA b1_)) (highA b2_)) (highA b3_))), .second, .unset] []) := by
    by_cases hu1 : (Int32.ofNat k0) < (2 : Int32)
    · skip
      have pre89 : Goes p e below s₁ (entryFrame m #[(.int p1), (.int p2), (.long q3), (.long q4)] maxLocals) T76 (mkF m 255 #[.val (.int p1), .val (.int p2), .val (.long q3), .second, .val (.long q4), .second, .val (.int (Int32.ofNat k0)), .val (.int b0_), .val (.int b1_), .val (.int b2_), .val (.int b3_), .val (.ref b22), .val (.ref b44), .val (.long (accA 3 k0 (accA 2 k0 (accA 1 k0 (accA 0 k0 q3 (lowA b0_)) (lowA b1_)) (lowA b2_)) (lowA b3_))), .second, .val (.long (accA 3 k0 (accA 2 k0 (accA 1 k0 (accA 0 k0 q4 (highA b0_)) (highA b1_)) (highA b2_)) (highA b3_))), .second, .unset] []) := fun t k => pre87 t (by
          refine XS.icmpYes X76.here hx rfl (pc0 := 243) (pc' := 255) rfl (hb hby at_243) rfl (tlt hu1).1 (by decide) (by decide) ?_
          show Steps p.tables e below (T76.setTop (mkF m 255 #[.val (.int p1), .val (.int p2), .val (.long q3), .second, .val (.long q4), .second, .val (.int (Int32.ofNat k0)), .val (.int b0_), .val (.int b1_), .val (.int b2_), .val (.int b3_), .val (.ref b22), .val (.ref b44), .val (.long (accA 3 k0 (accA 2 k0 (accA 1 k0 (accA 0 k0 q3 (lowA b0_)) (lowA b1_)) (lowA b2_)) (lowA b3_))), .second, .val (.long (accA 3 k0 (accA 2 k0 (accA 1 k0 (accA 0 k0 q4 (highA b0_)) (highA b1_)) (highA b2_)) (highA b3_))), .second, .unset] [])) _
          exact k)
      exact pre89
    · skip
      have hlt : 1 < k0 := Nat.lt_of_not_le fun q => hu1 (own_ofNat (i := k0) (n := 2) (by omega) (by omega))
      have hin : ¬ ((1 : Int32) < 0 ∨ c1.slots.size ≤ (1 : Int32).toNatClampNeg) := by rw [size_of_list l1, show (1 : Int32).toNatClampNeg = 1 from rfl]; simp only [List.length_set, List.length_replicate]; exact fun q => q.elim (by decide) (Nat.not_le.mpr hlt)
      have hat : c1.slots[(1 : Int32).toNatClampNeg]? = some (.int b1_) := by
        have q := slot_of_list (j := 1) l1 (by simp only [List.length_set, List.length_replicate]; exact hlt)
        rw [show (((((List.replicate k0 (0 : Int32)).set 0 b0_).set 1 b1_).set 2 b2_).set 3 b3_) = [b0_, b1_, b2_, b3_].take k0 from own_bytes hk0 b0_ b1_ b2_ b3_] at q
        have : k0 = 0 ∨ k0 = 1 ∨ k0 = 2 ∨ k0 = 3 ∨ k0 = 4 := by omega
        rcases this with rfl | rfl | rfl | rfl | rfl <;> first | exact q | omega
      have pre90 : Goes p e below s₁ (entryFrame m #[(.int p1), (.int p2), (.long q3), (.long q4)] maxLocals) T76 (mkF m 255 #[.val (.int p1), .val (.int p2), .val (.long q3), .second, .val (.long q4), .second, .val (.int (Int32.ofNat k0)), .val (.int b0_), .val (.int b1_), .val (.int b2_), .val (.int b3_), .val (.ref b22), .val (.ref b44), .val (.long (accA 3 k0 (accA 2 k0 (accA 1 k0 (accA 0 k0 q3 (lowA b0_)) (lowA b1_)) (lowA b2_)) (lowA b3_))), .second, .val (.long (accA 3 k0 (accA 2 k0 (accA 1 k0 (accA 0 k0 q4 (highA b0_)) (highA b1_)) (highA b2_)) (highA b3_))), .second, .unset] []) := fun t k => pre87 t (by
          refine XS.icmpNo X76.here hx rfl (hb hby at_243) rfl (flt hu1).1 ?_
          show Steps p.tables e below (T76.setTop (mkF m 246 #[.val (.int p1), .val (.int p2), .val (.long q3), .second, .val (.long q4), .second, .val (.int (Int32.ofNat k0)), .val (.int b0_), .val (.int b1_), .val (.int b2_), .val (.int b3_), .val (.ref b22), .val (.ref b44), .val (.long (accA 3 k0 (accA 2 k0 (accA 1 k0 (accA 0 k0 q3 (lowA b0_)) (lowA b1_)) (lowA b2_)) (lowA b3_))), .second, .val (.long (accA 3 k0 (accA 2 k0 (accA 1 k0 (accA 0 k0 q4 (highA b0_)) (highA b1_)) (highA b2_)) (highA b3_))), .second, .unset] [])) _
          refine XS.aload X76.here hx rfl (hb hby at_246) rfl rfl ?_
          show Steps p.tables e below (T76.setTop (mkF m 248 #[.val (.int p1), .val (.int p2), .val (.long q3), .second, .val (.long q4), .second, .val (.int (Int32.ofNat k0)), .val (.int b0_), .val (.int b1_), .val (.int b2_), .val (.int b3_), .val (.ref b22), .val (.ref b44), .val (.long (accA 3 k0 (accA 2 k0 (accA 1 k0 (accA 0 k0 q3 (lowA b0_)) (lowA b1_)) (lowA b2_)) (lowA b3_))), .second, .val (.long (accA 3 k0 (accA 2 k0 (accA 1 k0 (accA 0 k0 q4 (highA b0_)) (highA b1_)) (highA b2_)) (highA b3_))), .second, .unset] [(.ref b22)])) _
          refine XS.iconst X76.here hx rfl (hb hby at_248) ?_
          show Steps p.tables e below (T76.setTop (mkF m 249 #[.val (.int p1), .val (.int p2), .val (.long q3), .second, .val (.long q4), .second, .val (.int (Int32.ofNat k0)), .val (.int b0_), .val (.int b1_), .val (.int b2_), .val (.int b3_), .val (.ref b22), .val (.ref b44), .val (.long (accA 3 k0 (accA 2 k0 (accA 1 k0 (accA 0 k0 q3 (lowA b0_)) (lowA b1_)) (lowA b2_)) (lowA b3_))), .second, .val (.long (accA 3 k0 (accA 2 k0 (accA 1 k0 (accA 0 k0 q4 (highA b0_)) (highA b1_)) (highA b2_)) (highA b3_))), .second, .unset] [(.int (1 : Int32)), (.ref b22)])) _
          refine X76.baloadBytes hx (j := (1 : Int32)) (v := (.int b1_)) (by rw [e76]; exact A1.1) (State.isArrayOf_alike hZ.alike A1.2.1) A1.2.2 hin hat (g := (mkF m 249 #[.val (.int p1), .val (.int p2), .val (.long q3), .second, .val (.long q4), .second, .val (.int (Int32.ofNat k0)), .val (.int b0_), .val (.int b1_), .val (.int b2_), .val (.int b3_), .val (.ref b22), .val (.ref b44), .val (.long (accA 3 k0 (accA 2 k0 (accA 1 k0 (accA 0 k0 q3 (lowA b0_)) (lowA b1_)) (lowA b2_)) (lowA b3_))), .second, .val (.long (accA 3 k0 (accA 2 k0 (accA 1 k0 (accA 0 k0 q4 (highA b0_)) (highA b1_)) (highA b2_)) (highA b3_))), .second, .unset] [(.int (1 : Int32)), (.ref b22)])) rfl rfl (hb hby at_249) _ ?_
          show Steps p.tables e below (T76.setTop (mkF m 250 #[.val (.int p1), .val (.int p2), .val (.long q3), .second, .val (.long q4), .second, .val (.int (Int32.ofNat k0)), .val (.int b0_), .val (.int b1_), .val (.int b2_), .val (.int b3_), .val (.ref b22), .val (.ref b44), .val (.long (accA 3 k0 (accA 2 k0 (accA 1 k0 (accA 0 k0 q3 (lowA b0_)) (lowA b1_)) (lowA b2_)) (lowA b3_))), .second, .val (.long (accA 3 k0 (accA 2 k0 (accA 1 k0 (accA 0 k0 q4 (highA b0_)) (highA b1_)) (highA b2_)) (highA b3_))), .second, .unset] [(.int b1_)])) _
          refine XS.iload X76.here hx rfl (hb hby at_250) rfl ?_
          show Steps p.tables e below (T76.setTop (mkF m 252 #[.val (.int p1), .val (.int p2), .val (.long q3), .second, .val (.long q4), .second, .val (.int (Int32.ofNat k0)), .val (.int b0_), .val (.int b1_), .val (.int b2_), .val (.int b3_), .val (.ref b22), .val (.ref b44), .val (.long (accA 3 k0 (accA 2 k0 (accA 1 k0 (accA 0 k0 q3 (lowA b0_)) (lowA b1_)) (lowA b2_)) (lowA b3_))), .second, .val (.long (accA 3 k0 (accA 2 k0 (accA 1 k0 (accA 0 k0 q4 (highA b0_)) (highA b1_)) (highA b2_)) (highA b3_))), .second, .unset] [(.int b1_), (.int b1_)])) _
          refine XS.icmpNo X76.here hx rfl (hb hby at_252) rfl (teq rfl).2 ?_
          show Steps p.tables e below (T76.setTop (mkF m 255 #[.val (.int p1), .val (.int p2), .val (.long q3), .second, .val (.long q4), .second, .val (.int (Int32.ofNat k0)), .val (.int b0_), .val (.int b1_), .val (.int b2_), .val (.int b3_), .val (.ref b22), .val (.ref b44), .val (.long (accA 3 k0 (accA 2 k0 (accA 1 k0 (accA 0 k0 q3 (lowA b0_)) (lowA b1_)) (lowA b2_)) (lowA b3_))), .second, .val (.long (accA 3 k0 (accA 2 k0 (accA 1 k0 (accA 0 k0 q4 (highA b0_)) (highA b1_)) (highA b2_)) (highA b3_))), .second, .unset] [])) _
          exact k)
      exact pre90
  have pre91 : Goes p e below s₁ (entryFrame m #[(.int p1), (.int p2), (.long q3), (.long q4)] maxLocals) T76 (mkF m 258 #[.val (.int p1), .val (.int p2), .val (.long q3), .second, .val (.long q4), .second, .val (.int (Int32.ofNat k0)), .val (.int b0_), .val (.int b1_), .val (.int b2_), .val (.int b3_), .val (.ref b22), .val (.ref b44), .val (.long (accA 3 k0 (accA 2 k0 (accA 1 k0 (accA 0 k0 q3 (lowA b0_)) (lowA b1_)) (lowA b2_)) (lowA b3_))), .second, .val (.long (accA 3 k0 (accA 2 k0 (accA 1 k0 (accA 0 k0 q4 (highA b0_)) (highA b1_)) (highA b2_)) (highA b3_))), .second, .unset] [(.int (3 : Int32)), (.int (Int32.ofNat k0))]) := fun t k => pre88 t (by
      refine XS.iload X76.here hx rfl (hb hby at_255) rfl ?_
      show Steps p.tables e below (T76.setTop (mkF m 257 #[.val (.int p1), .val (.int p2), .val (.long q3), .second, .val (.long q4), .second, .val (.int (Int32.ofNat k0)), .val (.int b0_), .val (.int b1_), .val (.int b2_), .val (.int b3_), .val (.ref b22), .val (.ref b44), .val (.long (accA 3 k0 (accA 2 k0 (accA 1 k0 (accA 0 k0 q3 (lowA b0_)) (lowA b1_)) (lowA b2_)) (lowA b3_))), .second, .val (.long (accA 3 k0 (accA 2 k0 (accA 1 k0 (accA 0 k0 q4 (highA b0_)) (highA b1_)) (highA b2_)) (highA b3_))), .second, .unset] [(.int (Int32.ofNat k0))])) _
      refine XS.iconst X76.here hx rfl (hb hby at_257) ?_
      show Steps p.tables e below (T76.setTop (mkF m 258 #[.val (.int p1), .val (.int p2), .val (.long q3), .second, .val (.long q4), .second, .val (.int (Int32.ofNat k0)), .val (.int b0_), .val (.int b1_), .val (.int b2_), .val (.int b3_), .val (.ref b22), .val (.ref b44), .val (.long (accA 3 k0 (accA 2 k0 (accA 1 k0 (accA 0 k0 q3 (lowA b0_)) (lowA b1_)) (lowA b2_)) (lowA b3_))), .second, .val (.long (accA 3 k0 (accA 2 k0 (accA 1 k0 (accA 0 k0 q4 (highA b0_)) (highA b1_)) (highA b2_)) (highA b3_))), .second, .unset] [(.int (3 : Int32)), (.int (Int32.ofNat k0))])) _
      exact k)
  have pre92 : Goes p e below s₁ (entryFrame m #[(.int p1), (.int p2), (.long q3), (.long q4)] maxLocals) T76 (mkF m 270 #[.val (.int p1), .val (.int p2), .val (.long q3), .second, .val (.long q4), .second, .val (.int (Int32.ofNat k0)), .val (.int b0_), .val (.int b1_), .val (.int b2_), .val (.int b3_), .val (.ref b22), .val (.ref b44), .val (.long (accA 3 k0 (accA 2 k0 (accA 1 k0 (accA 0 k0 q3 (lowA b0_)) (lowA b1_)) (lowA b2_)) (lowA b3_))), .second, .val (.long (accA 3 k0 (accA 2 k0 (accA 1 k0 (accA 0 k0 q4 (highA b0_)) (highA b1_)) (highA b2_)) (highA b3_))), .second, .unset] []) := by
    by_cases hu2 : (Int32.ofNat k0) < (3 : Int32)
    · skip
      have pre93 : Goes p e below s₁ (entryFrame m #[(.int p1), (.int p2), (.long q3), (.long q4)] maxLocals) T76 (mkF m 270 #[.val (.int p1), .val (.int p2), .val (.long q3), .second, .val (.long q4), .second, .val (.int (Int32.ofNat k0)), .val (.int b0_), .val (.int b1_), .val (.int b2_), .val (.int b3_), .val (.ref b22), .val (.ref b44), .val (.long (accA 3 k0 (accA 2 k0 (accA 1 k0 (accA 0 k0 q3 (lowA b0_)) (lowA b1_)) (lowA b2_)) (lowA b3_))), .second, .val (.long (accA 3 k0 (accA 2 k0 (accA 1 k0 (accA 0 k0 q4 (highA b0_)) (highA b1_)) (highA b2_)) (highA b3_))), .second, .unset] []) := fun t k => pre91 t (by
          refine XS.icmpYes X76.here hx rfl (pc0 := 258) (pc' := 270) rfl (hb hby at_258) rfl (tlt hu2).1 (by decide) (by decide) ?_
          show Steps p.tables e below (T76.setTop (mkF m 270 #[.val (.int p1), .val (.int p2), .val (.long q3), .second, .val (.long q4), .second, .val (.int (Int32.ofNat k0)), .val (.int b0_), .val (.int b1_), .val (.int b2_), .val (.int b3_), .val (.ref b22), .val (.ref b44), .val (.long (accA 3 k0 (accA 2 k0 (accA 1 k0 (accA 0 k0 q3 (lowA b0_)) (lowA b1_)) (lowA b2_)) (lowA b3_))), .second, .val (.long (accA 3 k0 (accA 2 k0 (accA 1 k0 (accA 0 k0 q4 (highA b0_)) (highA b1_)) (highA b2_)) (highA b3_))), .second, .unset] [])) _
          exact k)
      exact pre93
    · skip
      have hlt : 2 < k0 := Nat.lt_of_not_le fun q => hu2 (own_ofNat (i := k0) (n := 3) (by omega) (by omega))
      have hin : ¬ ((2 : Int32) < 0 ∨ c1.slots.size ≤ (2 : Int32).toNatClampNeg) := by rw [size_of_list l1, show (2 : Int32).toNatClampNeg = 2 from rfl]; simp only [List.length_set, List.length_replicate]; exact fun q => q.elim (by decide) (Nat.not_le.mpr hlt)
      have hat : c1.slots[(2 : Int32).toNatClampNeg]? = some (.int b2_) := by
        have q := slot_of_list (j := 2) l1 (by simp only [List.length_set, List.length_replicate]; exact hlt)
        rw [show (((((List.replicate k0 (0 : Int32)).set 0 b0_).set 1 b1_).set 2 b2_).set 3 b3_) = [b0_, b1_, b2_, b3_].take k0 from own_bytes hk0 b0_ b1_ b2_ b3_] at q
        have : k0 = 0 ∨ k0 = 1 ∨ k0 = 2 ∨ k0 = 3 ∨ k0 = 4 := by omega
        rcases this with rfl | rfl | rfl | rfl | rfl <;> first | exact q | omega
      have pre94 : Goes p e below s₁ (entryFrame m #[(.int p1), (.int p2), (.long q3), (.long q4)] maxLocals) T76 (mkF m 270 #[.val (.int p1), .val (.int p2), .val (.long q3), .second, .val (.long q4), .second, .val (.int (Int32.ofNat k0)), .val (.int b0_), .val (.int b1_), .val (.int b2_), .val (.int b3_), .val (.ref b22), .val (.ref b44), .val (.long (accA 3 k0 (accA 2 k0 (accA 1 k0 (accA 0 k0 q3 (lowA b0_)) (lowA b1_)) (lowA b2_)) (lowA b3_))), .second, .val (.long (accA 3 k0 (accA 2 k0 (accA 1 k0 (accA 0 k0 q4 (highA b0_)) (highA b1_)) (highA b2_)) (highA b3_))), .second, .unset] []) := fun t k => pre91 t (by
          refine XS.icmpNo X76.here hx rfl (hb hby at_258) rfl (flt hu2).1 ?_
          show Steps p.tables e below (T76.setTop (mkF m 261 #[.val (.int p1), .val (.int p2), .val (.long q3), .second, .val (.long q4), .second, .val (.int (Int32.ofNat k0)), .val (.int b0_), .val (.int b1_), .val (.int b2_), .val (.int b3_), .val (.ref b22), .val (.ref b44), .val (.long (accA 3 k0 (accA 2 k0 (accA 1 k0 (accA 0 k0 q3 (lowA b0_)) (lowA b1_)) (lowA b2_)) (lowA b3_))), .second, .val (.long (accA 3 k0 (accA 2 k0 (accA 1 k0 (accA 0 k0 q4 (highA b0_)) (highA b1_)) (highA b2_)) (highA b3_))), .second, .unset] [])) _
          refine XS.aload X76.here hx rfl (hb hby at_261) rfl rfl ?_
          show Steps p.tables e below (T76.setTop (mkF m 263 #[.val (.int p1), .val (.int p2), .val (.long q3), .second, .val (.long q4), .second, .val (.int (Int32.ofNat k0)), .val (.int b0_), .val (.int b1_), .val (.int b2_), .val (.int b3_), .val (.ref b22), .val (.ref b44), .val (.long (accA 3 k0 (accA 2 k0 (accA 1 k0 (accA 0 k0 q3 (lowA b0_)) (lowA b1_)) (lowA b2_)) (lowA b3_))), .second, .val (.long (accA 3 k0 (accA 2 k0 (accA 1 k0 (accA 0 k0 q4 (highA b0_)) (highA b1_)) (highA b2_)) (highA b3_))), .second, .unset] [(.ref b22)])) _
          refine XS.iconst X76.here hx rfl (hb hby at_263) ?_
          show Steps p.tables e below (T76.setTop (mkF m 264 #[.val (.int p1), .val (.int p2), .val (.long q3), .second, .val (.long q4), .second, .val (.int (Int32.ofNat k0)), .val (.int b0_), .val (.int b1_), .val (.int b2_), .val (.int b3_), .val (.ref b22), .val (.ref b44), .val (.long (accA 3 k0 (accA 2 k0 (accA 1 k0 (accA 0 k0 q3 (lowA b0_)) (lowA b1_)) (lowA b2_)) (lowA b3_))), .second, .val (.long (accA 3 k0 (accA 2 k0 (accA 1 k0 (accA 0 k0 q4 (highA b0_)) (highA b1_)) (highA b2_)) (highA b3_))), .second, .unset] [(.int (2 : Int32)), (.ref b22)])) _
          refine X76.baloadBytes hx (j := (2 : Int32)) (v := (.int b2_)) (by rw [e76]; exact A1.1) (State.isArrayOf_alike hZ.alike A1.2.1) A1.2.2 hin hat (g := (mkF m 264 #[.val (.int p1), .val (.int p2), .val (.long q3), .second, .val (.long q4), .second, .val (.int (Int32.ofNat k0)), .val (.int b0_), .val (.int b1_), .val (.int b2_), .val (.int b3_), .val (.ref b22), .val (.ref b44), .val (.long (accA 3 k0 (accA 2 k0 (accA 1 k0 (accA 0 k0 q3 (lowA b0_)) (lowA b1_)) (lowA b2_)) (lowA b3_))), .second, .val (.long (accA 3 k0 (accA 2 k0 (accA 1 k0 (accA 0 k0 q4 (highA b0_)) (highA b1_)) (highA b2_)) (highA b3_))), .second, .unset] [(.int (2 : Int32)), (.ref b22)])) rfl rfl (hb hby at_264) _ ?_
          show Steps p.tables e below (T76.setTop (mkF m 265 #[.val (.int p1), .val (.int p2), .val (.long q3), .second, .val (.long q4), .second, .val (.int (Int32.ofNat k0)), .val (.int b0_), .val (.int b1_), .val (.int b2_), .val (.int b3_), .val (.ref b22), .val (.ref b44), .val (.long (accA 3 k0 (accA 2 k0 (accA 1 k0 (accA 0 k0 q3 (lowA b0_)) (lowA b1_)) (lowA b2_)) (lowA b3_))), .second, .val (.long (accA 3 k0 (accA 2 k0 (accA 1 k0 (accA 0 k0 q4 (highA b0_)) (highA b1_)) (highA b2_)) (highA b3_))), .second, .unset] [(.int b2_)])) _
          refine XS.iload X76.here hx rfl (hb hby at_265) rfl ?_
          show Steps p.tables e below (T76.setTop (mkF m 267 #[.val (.int p1), .val (.int p2), .val (.long q3), .second, .val (.long q4), .second, .val (.int (Int32.ofNat k0)), .val (.int b0_), .val (.int b1_), .val (.int b2_), .val (.int b3_), .val (.ref b22), .val (.ref b44), .val (.long (accA 3 k0 (accA 2 k0 (accA 1 k0 (accA 0 k0 q3 (lowA b0_)) (lowA b1_)) (lowA b2_)) (lowA b3_))), .second, .val (.long (accA 3 k0 (accA 2 k0 (accA 1 k0 (accA 0 k0 q4 (highA b0_)) (highA b1_)) (highA b2_)) (highA b3_))), .second, .unset] [(.int b2_), (.int b2_)])) _
          refine XS.icmpNo X76.here hx rfl (hb hby at_267) rfl (teq rfl).2 ?_
          show Steps p.tables e below (T76.setTop (mkF m 270 #[.val (.int p1), .val (.int p2), .val (.long q3), .second, .val (.long q4), .second, .val (.int (Int32.ofNat k0)), .val (.int b0_), .val (.int b1_), .val (.int b2_), .val (.int b3_), .val (.ref b22), .val (.ref b44), .val (.long (accA 3 k0 (accA 2 k0 (accA 1 k0 (accA 0 k0 q3 (lowA b0_)) (lowA b1_)) (lowA b2_)) (lowA b3_))), .second, .val (.long (accA 3 k0 (accA 2 k0 (accA 1 k0 (accA 0 k0 q4 (highA b0_)) (highA b1_)) (highA b2_)) (highA b3_))), .second, .unset] [])) _
          exact k)
      exact pre94
  have pre95 : Goes p e below s₁ (entryFrame m #[(.int p1), (.int p2), (.long q3), (.long q4)] maxLocals) T76 (mkF m 273 #[.val (.int p1), .val (.int p2), .val (.long q3), .second, .val (.long q4), .second, .val (.int (Int32.ofNat k0)), .val (.int b0_), .val (.int b1_), .val (.int b2_), .val (.int b3_), .val (.ref b22), .val (.ref b44), .val (.long (accA 3 k0 (accA 2 k0 (accA 1 k0 (accA 0 k0 q3 (lowA b0_)) (lowA b1_)) (lowA b2_)) (lowA b3_))), .second, .val (.long (accA 3 k0 (accA 2 k0 (accA 1 k0 (accA 0 k0 q4 (highA b0_)) (highA b1_)) (highA b2_)) (highA b3_))), .second, .unset] [(.int (4 : Int32)), (.int (Int32.ofNat k0))]) := fun t k => pre92 t (by
      refine XS.iload X76.here hx rfl (hb hby at_270) rfl ?_
      show Steps p.tables e below (T76.setTop (mkF m 272 #[.val (.int p1), .val (.int p2), .val (.long q3), .second, .val (.long q4), .second, .val (.int (Int32.ofNat k0)), .val (.int b0_), .val (.int b1_), .val (.int b2_), .val (.int b3_), .val (.ref b22), .val (.ref b44), .val (.long (accA 3 k0 (accA 2 k0 (accA 1 k0 (accA 0 k0 q3 (lowA b0_)) (lowA b1_)) (lowA b2_)) (lowA b3_))), .second, .val (.long (accA 3 k0 (accA 2 k0 (accA 1 k0 (accA 0 k0 q4 (highA b0_)) (highA b1_)) (highA b2_)) (highA b3_))), .second, .unset] [(.int (Int32.ofNat k0))])) _
      refine XS.iconst X76.here hx rfl (hb hby at_272) ?_
      show Steps p.tables e below (T76.setTop (mkF m 273 #[.val (.int p1), .val (.int p2), .val (.long q3), .second, .val (.long q4), .second, .val (.int (Int32.ofNat k0)), .val (.int b0_), .val (.int b1_), .val (.int b2_), .val (.int b3_), .val (.ref b22), .val (.ref b44), .val (.long (accA 3 k0 (accA 2 k0 (accA 1 k0 (accA 0 k0 q3 (lowA b0_)) (lowA b1_)) (lowA b2_)) (lowA b3_))), .second, .val (.long (accA 3 k0 (accA 2 k0 (accA 1 k0 (accA 0 k0 q4 (highA b0_)) (highA b1_)) (highA b2_)) (highA b3_))), .second, .unset] [(.int (4 : Int32)), (.int (Int32.ofNat k0))])) _
      exact k)
  have pre96 : Goes p e below s₁ (entryFrame m #[(.int p1), (.int p2), (.long q3), (.long q4)] maxLocals) T76 (mkF m 285 #[.val (.int p1), .val (.int p2), .val (.long q3), .second, .val (.long q4), .second, .val (.int (Int32.ofNat k0)), .val (.int b0_), .val (.int b1_), .val (.int b2_), .val (.int b3_), .val (.ref b22), .val (.ref b44), .val (.long (accA 3 k0 (accA 2 k0 (accA 1 k0 (accA 0 k0 q3 (lowA b0_)) (lowA b1_)) (lowA b2_)) (lowA b3_))), .second, .val (.long (accA 3 k0 (accA 2 k0 (accA 1 k0 (accA 0 k0 q4 (highA b0_)) (highA b1_)) (highA b2_)) (highA b3_))), .second, .unset] []) := by
    by_cases hu3 : (Int32.ofNat k0) < (4 : Int32)
    · skip
      have pre97 : Goes p e below s₁ (entryFrame m #[(.int p1), (.int p2), (.long q3), (.long q4)] maxLocals) T76 (mkF m 285 #[.val (.int p1), .val (.int p2), .val (.long q3), .second, .val (.long q4), .second, .val (.int (Int32.ofNat k0)), .val (.int b0_), .val (.int b1_), .val (.int b2_), .val (.int b3_), .val (.ref b22), .val (.ref b44), .val (.long (accA 3 k0 (accA 2 k0 (accA 1 k0 (accA 0 k0 q3 (lowA b0_)) (lowA b1_)) (lowA b2_)) (lowA b3_))), .second, .val (.long (accA 3 k0 (accA 2 k0 (accA 1 k0 (accA 0 k0 q4 (highA b0_)) (highA b1_)) (highA b2_)) (highA b3_))), .second, .unset] []) := fun t k => pre95 t (by
          refine XS.icmpYes X76.here hx rfl (pc0 := 273) (pc' := 285) rfl (hb hby at_273) rfl (tlt hu3).1 (by decide) (by decide) ?_
          show Steps p.tables e below (T76.setTop (mkF m 285 #[.val (.int p1), .val (.int p2), .val (.long q3), .second, .val (.long q4), .second, .val (.int (Int32.ofNat k0)), .val (.int b0_), .val (.int b1_), .val (.int b2_), .val (.int b3_), .val (.ref b22), .val (.ref b44), .val (.long (accA 3 k0 (accA 2 k0 (accA 1 k0 (accA 0 k0 q3 (lowA b0_)) (lowA b1_)) (lowA b2_)) (lowA b3_))), .second, .val (.long (accA 3 k0 (accA 2 k0 (accA 1 k0 (accA 0 k0 q4 (highA b0_)) (highA b1_)) (highA b2_)) (highA b3_))), .second, .unset] [])) _
          exact k)
      exact pre97
    · skip
      have hlt : 3 < k0 := Nat.lt_of_not_le fun q => hu3 (own_ofNat (i := k0) (n := 4) (by omega) (by omega))
      have hin : ¬ ((3 : Int32) < 0 ∨ c1.slots.size ≤ (3 : Int32).toNatClampNeg) := by rw [size_of_list l1, show (3 : Int32).toNatClampNeg = 3 from rfl]; simp only [List.length_set, List.length_replicate]; exact fun q => q.elim (by decide) (Nat.not_le.mpr hlt)
      have hat : c1.slots[(3 : Int32).toNatClampNeg]? = some (.int b3_) := by
        have q := slot_of_list (j := 3) l1 (by simp only [List.length_set, List.length_replicate]; exact hlt)
        rw [show (((((List.replicate k0 (0 : Int32)).set 0 b0_).set 1 b1_).set 2 b2_).set 3 b3_) = [b0_, b1_, b2_, b3_].take k0 from own_bytes hk0 b0_ b1_ b2_ b3_] at q
        have : k0 = 0 ∨ k0 = 1 ∨ k0 = 2 ∨ k0 = 3 ∨ k0 = 4 := by omega
        rcases this with rfl | rfl | rfl | rfl | rfl <;> first | exact q | omega
      have pre98 : Goes p e below s₁ (entryFrame m #[(.int p1), (.int p2), (.long q3), (.long q4)] maxLocals) T76 (mkF m 285 #[.val (.int p1), .val (.int p2), .val (.long q3), .second, .val (.long q4), .second, .val (.int (Int32.ofNat k0)), .val (.int b0_), .val (.int b1_), .val (.int b2_), .val (.int b3_), .val (.ref b22), .val (.ref b44), .val (.long (accA 3 k0 (accA 2 k0 (accA 1 k0 (accA 0 k0 q3 (lowA b0_)) (lowA b1_)) (lowA b2_)) (lowA b3_))), .second, .val (.long (accA 3 k0 (accA 2 k0 (accA 1 k0 (accA 0 k0 q4 (highA b0_)) (highA b1_)) (highA b2_)) (highA b3_))), .second, .unset] []) := fun t k => pre95 t (by
          refine XS.icmpNo X76.here hx rfl (hb hby at_273) rfl (flt hu3).1 ?_
          show Steps p.tables e below (T76.setTop (mkF m 276 #[.val (.int p1), .val (.int p2), .val (.long q3), .second, .val (.long q4), .second, .val (.int (Int32.ofNat k0)), .val (.int b0_), .val (.int b1_), .val (.int b2_), .val (.int b3_), .val (.ref b22), .val (.ref b44), .val (.long (accA 3 k0 (accA 2 k0 (accA 1 k0 (accA 0 k0 q3 (lowA b0_)) (lowA b1_)) (lowA b2_)) (lowA b3_))), .second, .val (.long (accA 3 k0 (accA 2 k0 (accA 1 k0 (accA 0 k0 q4 (highA b0_)) (highA b1_)) (highA b2_)) (highA b3_))), .second, .unset] [])) _
          refine XS.aload X76.here hx rfl (hb hby at_276) rfl rfl ?_
          show Steps p.tables e below (T76.setTop (mkF m 278 #[.val (.int p1), .val (.int p2), .val (.long q3), .second, .val (.long q4), .second, .val (.int (Int32.ofNat k0)), .val (.int b0_), .val (.int b1_), .val (.int b2_), .val (.int b3_), .val (.ref b22), .val (.ref b44), .val (.long (accA 3 k0 (accA 2 k0 (accA 1 k0 (accA 0 k0 q3 (lowA b0_)) (lowA b1_)) (lowA b2_)) (lowA b3_))), .second, .val (.long (accA 3 k0 (accA 2 k0 (accA 1 k0 (accA 0 k0 q4 (highA b0_)) (highA b1_)) (highA b2_)) (highA b3_))), .second, .unset] [(.ref b22)])) _
          refine XS.iconst X76.here hx rfl (hb hby at_278) ?_
          show Steps p.tables e below (T76.setTop (mkF m 279 #[.val (.int p1), .val (.int p2), .val (.long q3), .second, .val (.long q4), .second, .val (.int (Int32.ofNat k0)), .val (.int b0_), .val (.int b1_), .val (.int b2_), .val (.int b3_), .val (.ref b22), .val (.ref b44), .val (.long (accA 3 k0 (accA 2 k0 (accA 1 k0 (accA 0 k0 q3 (lowA b0_)) (lowA b1_)) (lowA b2_)) (lowA b3_))), .second, .val (.long (accA 3 k0 (accA 2 k0 (accA 1 k0 (accA 0 k0 q4 (highA b0_)) (highA b1_)) (highA b2_)) (highA b3_))), .second, .unset] [(.int (3 : Int32)), (.ref b22)])) _
          refine X76.baloadBytes hx (j := (3 : Int32)) (v := (.int b3_)) (by rw [e76]; exact A1.1) (State.isArrayOf_alike hZ.alike A1.2.1) A1.2.2 hin hat (g := (mkF m 279 #[.val (.int p1), .val (.int p2), .val (.long q3), .second, .val (.long q4), .second, .val (.int (Int32.ofNat k0)), .val (.int b0_), .val (.int b1_), .val (.int b2_), .val (.int b3_), .val (.ref b22), .val (.ref b44), .val (.long (accA 3 k0 (accA 2 k0 (accA 1 k0 (accA 0 k0 q3 (lowA b0_)) (lowA b1_)) (lowA b2_)) (lowA b3_))), .second, .val (.long (accA 3 k0 (accA 2 k0 (accA 1 k0 (accA 0 k0 q4 (highA b0_)) (highA b1_)) (highA b2_)) (highA b3_))), .second, .unset] [(.int (3 : Int32)), (.ref b22)])) rfl rfl (hb hby at_279) _ ?_
          show Steps p.tables e below (T76.setTop (mkF m 280 #[.val (.int p1), .val (.int p2), .val (.long q3), .second, .val (.long q4), .second, .val (.int (Int32.ofNat k0)), .val (.int b0_), .val (.int b1_), .val (.int b2_), .val (.int b3_), .val (.ref b22), .val (.ref b44), .val (.long (accA 3 k0 (accA 2 k0 (accA 1 k0 (accA 0 k0 q3 (lowA b0_)) (lowA b1_)) (lowA b2_)) (lowA b3_))), .second, .val (.long (accA 3 k0 (accA 2 k0 (accA 1 k0 (accA 0 k0 q4 (highA b0_)) (highA b1_)) (highA b2_)) (highA b3_))), .second, .unset] [(.int b3_)])) _
          refine XS.iload X76.here hx rfl (hb hby at_280) rfl ?_
          show Steps p.tables e below (T76.setTop (mkF m 282 #[.val (.int p1), .val (.int p2), .val (.long q3), .second, .val (.long q4), .second, .val (.int (Int32.ofNat k0)), .val (.int b0_), .val (.int b1_), .val (.int b2_), .val (.int b3_), .val (.ref b22), .val (.ref b44), .val (.long (accA 3 k0 (accA 2 k0 (accA 1 k0 (accA 0 k0 q3 (lowA b0_)) (lowA b1_)) (lowA b2_)) (lowA b3_))), .second, .val (.long (accA 3 k0 (accA 2 k0 (accA 1 k0 (accA 0 k0 q4 (highA b0_)) (highA b1_)) (highA b2_)) (highA b3_))), .second, .unset] [(.int b3_), (.int b3_)])) _
          refine XS.icmpNo X76.here hx rfl (hb hby at_282) rfl (teq rfl).2 ?_
          show Steps p.tables e below (T76.setTop (mkF m 285 #[.val (.int p1), .val (.int p2), .val (.long q3), .second, .val (.long q4), .second, .val (.int (Int32.ofNat k0)), .val (.int b0_), .val (.int b1_), .val (.int b2_), .val (.int b3_), .val (.ref b22), .val (.ref b44), .val (.long (accA 3 k0 (accA 2 k0 (accA 1 k0 (accA 0 k0 q3 (lowA b0_)) (lowA b1_)) (lowA b2_)) (lowA b3_))), .second, .val (.long (accA 3 k0 (accA 2 k0 (accA 1 k0 (accA 0 k0 q4 (highA b0_)) (highA b1_)) (highA b2_)) (highA b3_))), .second, .unset] [])) _
          exact k)
      exact pre98
  have hfin : ((((((List.replicate k0 (0 : Int32)).set 0 b0_).set 1 b1_).set 2 b2_).set 3 b3_)).foldl mk1 [q3, q4] = [(accA 3 k0 (accA 2 k0 (accA 1 k0 (accA 0 k0 q3 (lowA b0_)) (lowA b1_)) (lowA b2_)) (lowA b3_)), (accA 3 k0 (accA 2 k0 (accA 1 k0 (accA 0 k0 q4 (highA b0_)) (highA b1_)) (highA b2_)) (highA b3_))] := by
    rw [show (((((List.replicate k0 (0 : Int32)).set 0 b0_).set 1 b1_).set 2 b2_).set 3 b3_) = [b0_, b1_, b2_, b3_].take k0 from own_bytes hk0 b0_ b1_ b2_ b3_]
    have : k0 = 0 ∨ k0 = 1 ∨ k0 = 2 ∨ k0 = 3 ∨ k0 = 4 := by omega
    rcases this with rfl | rfl | rfl | rfl | rfl <;> simp only [List.take, List.foldl, own_mk B0, own_mk B1, own_mk B2, own_mk B3] <;> rfl
  rw [hfin] at l2
  have pre99 : Goes p e below s₁ (entryFrame m #[(.int p1), (.int p2), (.long q3), (.long q4)] maxLocals) T76 (mkF m 329 #[.val (.int p1), .val (.int p2), .val (.long q3), .second, .val (.long q4), .second, .val (.int (Int32.ofNat k0)), .val (.int b0_), .val (.int b1_), .val (.int b2_), .val (.int b3_), .val (.ref b22), .val (.ref b44), .val (.long (accA 3 k0 (accA 2 k0 (accA 1 k0 (accA 0 k0 q3 (lowA b0_)) (lowA b1_)) (lowA b2_)) (lowA b3_))), .second, .val (.long (accA 3 k0 (accA 2 k0 (accA 1 k0 (accA 0 k0 q4 (highA b0_)) (highA b1_)) (highA b2_)) (highA b3_))), .second, .val (.int (1 : Int32))] [(.int (1 : Int32))]) := fun t k => pre96 t (by
      refine XS.iconst X76.here hx rfl (hb hby at_285) ?_
      show Steps p.tables e below (T76.setTop (mkF m 286 #[.val (.int p1), .val (.int p2), .val (.long q3), .second, .val (.long q4), .second, .val (.int (Int32.ofNat k0)), .val (.int b0_), .val (.int b1_), .val (.int b2_), .val (.int b3_), .val (.ref b22), .val (.ref b44), .val (.long (accA 3 k0 (accA 2 k0 (accA 1 k0 (accA 0 k0 q3 (lowA b0_)) (lowA b1_)) (lowA b2_)) (lowA b3_))), .second, .val (.long (accA 3 k0 (accA 2 k0 (accA 1 k0 (accA 0 k0 q4 (highA b0_)) (highA b1_)) (highA b2_)) (highA b3_))), .second, .unset] [(.int (1 : Int32))])) _
      refine XS.goto X76.here hx rfl (pc0 := 286) (pc' := 290) rfl (hb hby at_286) (by decide) (by decide) ?_
      show Steps p.tables e below (T76.setTop (mkF m 290 #[.val (.int p1), .val (.int p2), .val (.long q3), .second, .val (.long q4), .second, .val (.int (Int32.ofNat k0)), .val (.int b0_), .val (.int b1_), .val (.int b2_), .val (.int b3_), .val (.ref b22), .val (.ref b44), .val (.long (accA 3 k0 (accA 2 k0 (accA 1 k0 (accA 0 k0 q3 (lowA b0_)) (lowA b1_)) (lowA b2_)) (lowA b3_))), .second, .val (.long (accA 3 k0 (accA 2 k0 (accA 1 k0 (accA 0 k0 q4 (highA b0_)) (highA b1_)) (highA b2_)) (highA b3_))), .second, .unset] [(.int (1 : Int32))])) _
      refine XS.istore X76.here hx rfl (hb hby at_290) rfl (l' := #[.val (.int p1), .val (.int p2), .val (.long q3), .second, .val (.long q4), .second, .val (.int (Int32.ofNat k0)), .val (.int b0_), .val (.int b1_), .val (.int b2_), .val (.int b3_), .val (.ref b22), .val (.ref b44), .val (.long (accA 3 k0 (accA 2 k0 (accA 1 k0 (accA 0 k0 q3 (lowA b0_)) (lowA b1_)) (lowA b2_)) (lowA b3_))), .second, .val (.long (accA 3 k0 (accA 2 k0 (accA 1 k0 (accA 0 k0 q4 (highA b0_)) (highA b1_)) (highA b2_)) (highA b3_))), .second, .val (.int (1 : Int32))]) rfl ?_
      show Steps p.tables e below (T76.setTop (mkF m 292 #[.val (.int p1), .val (.int p2), .val (.long q3), .second, .val (.long q4), .second, .val (.int (Int32.ofNat k0)), .val (.int b0_), .val (.int b1_), .val (.int b2_), .val (.int b3_), .val (.ref b22), .val (.ref b44), .val (.long (accA 3 k0 (accA 2 k0 (accA 1 k0 (accA 0 k0 q3 (lowA b0_)) (lowA b1_)) (lowA b2_)) (lowA b3_))), .second, .val (.long (accA 3 k0 (accA 2 k0 (accA 1 k0 (accA 0 k0 q4 (highA b0_)) (highA b1_)) (highA b2_)) (highA b3_))), .second, .val (.int (1 : Int32))] [])) _
      refine XS.aload X76.here hx rfl (hb hby at_292) rfl rfl ?_
      show Steps p.tables e below (T76.setTop (mkF m 294 #[.val (.int p1), .val (.int p2), .val (.long q3), .second, .val (.long q4), .second, .val (.int (Int32.ofNat k0)), .val (.int b0_), .val (.int b1_), .val (.int b2_), .val (.int b3_), .val (.ref b22), .val (.ref b44), .val (.long (accA 3 k0 (accA 2 k0 (accA 1 k0 (accA 0 k0 q3 (lowA b0_)) (lowA b1_)) (lowA b2_)) (lowA b3_))), .second, .val (.long (accA 3 k0 (accA 2 k0 (accA 1 k0 (accA 0 k0 q4 (highA b0_)) (highA b1_)) (highA b2_)) (highA b3_))), .second, .val (.int (1 : Int32))] [(.ref b44)])) _
      refine X76.arraylength hx (by rw [e76]; exact A2.1) (State.isArrayOf_alike hZ.alike A2.2.1) (g := (mkF m 294 #[.val (.int p1), .val (.int p2), .val (.long q3), .second, .val (.long q4), .second, .val (.int (Int32.ofNat k0)), .val (.int b0_), .val (.int b1_), .val (.int b2_), .val (.int b3_), .val (.ref b22), .val (.ref b44), .val (.long (accA 3 k0 (accA 2 k0 (accA 1 k0 (accA 0 k0 q3 (lowA b0_)) (lowA b1_)) (lowA b2_)) (lowA b3_))), .second, .val (.long (accA 3 k0 (accA 2 k0 (accA 1 k0 (accA 0 k0 q4 (highA b0_)) (highA b1_)) (highA b2_)) (highA b3_))), .second, .val (.int (1 : Int32))] [(.ref b44)])) rfl rfl (hb hby at_294) _ ?_
      rw [(show c2.slots.size.toInt32 = (2 : Int32) by rw [own_sizeJ l2]; rfl)]
      show Steps p.tables e below (T76.setTop (mkF m 295 #[.val (.int p1), .val (.int p2), .val (.long q3), .second, .val (.long q4), .second, .val (.int (Int32.ofNat k0)), .val (.int b0_), .val (.int b1_), .val (.int b2_), .val (.int b3_), .val (.ref b22), .val (.ref b44), .val (.long (accA 3 k0 (accA 2 k0 (accA 1 k0 (accA 0 k0 q3 (lowA b0_)) (lowA b1_)) (lowA b2_)) (lowA b3_))), .second, .val (.long (accA 3 k0 (accA 2 k0 (accA 1 k0 (accA 0 k0 q4 (highA b0_)) (highA b1_)) (highA b2_)) (highA b3_))), .second, .val (.int (1 : Int32))] [(.int (2 : Int32))])) _
      refine XS.iconst X76.here hx rfl (hb hby at_295) ?_
      show Steps p.tables e below (T76.setTop (mkF m 296 #[.val (.int p1), .val (.int p2), .val (.long q3), .second, .val (.long q4), .second, .val (.int (Int32.ofNat k0)), .val (.int b0_), .val (.int b1_), .val (.int b2_), .val (.int b3_), .val (.ref b22), .val (.ref b44), .val (.long (accA 3 k0 (accA 2 k0 (accA 1 k0 (accA 0 k0 q3 (lowA b0_)) (lowA b1_)) (lowA b2_)) (lowA b3_))), .second, .val (.long (accA 3 k0 (accA 2 k0 (accA 1 k0 (accA 0 k0 q4 (highA b0_)) (highA b1_)) (highA b2_)) (highA b3_))), .second, .val (.int (1 : Int32))] [(.int (2 : Int32)), (.int (2 : Int32))])) _
      refine XS.icmpNo X76.here hx rfl (hb hby at_296) rfl (teq (show (2 : Int32) = (2 : Int32) from (by decide : (2 : Int32) = (2 : Int32)))).2 ?_
      show Steps p.tables e below (T76.setTop (mkF m 299 #[.val (.int p1), .val (.int p2), .val (.long q3), .second, .val (.long q4), .second, .val (.int (Int32.ofNat k0)), .val (.int b0_), .val (.int b1_), .val (.int b2_), .val (.int b3_), .val (.ref b22), .val (.ref b44), .val (.long (accA 3 k0 (accA 2 k0 (accA 1 k0 (accA 0 k0 q3 (lowA b0_)) (lowA b1_)) (lowA b2_)) (lowA b3_))), .second, .val (.long (accA 3 k0 (accA 2 k0 (accA 1 k0 (accA 0 k0 q4 (highA b0_)) (highA b1_)) (highA b2_)) (highA b3_))), .second, .val (.int (1 : Int32))] [])) _
      refine XS.aload X76.here hx rfl (hb hby at_299) rfl rfl ?_
      show Steps p.tables e below (T76.setTop (mkF m 301 #[.val (.int p1), .val (.int p2), .val (.long q3), .second, .val (.long q4), .second, .val (.int (Int32.ofNat k0)), .val (.int b0_), .val (.int b1_), .val (.int b2_), .val (.int b3_), .val (.ref b22), .val (.ref b44), .val (.long (accA 3 k0 (accA 2 k0 (accA 1 k0 (accA 0 k0 q3 (lowA b0_)) (lowA b1_)) (lowA b2_)) (lowA b3_))), .second, .val (.long (accA 3 k0 (accA 2 k0 (accA 1 k0 (accA 0 k0 q4 (highA b0_)) (highA b1_)) (highA b2_)) (highA b3_))), .second, .val (.int (1 : Int32))] [(.ref b44)])) _
      refine XS.iconst X76.here hx rfl (hb hby at_301) ?_
      show Steps p.tables e below (T76.setTop (mkF m 302 #[.val (.int p1), .val (.int p2), .val (.long q3), .second, .val (.long q4), .second, .val (.int (Int32.ofNat k0)), .val (.int b0_), .val (.int b1_), .val (.int b2_), .val (.int b3_), .val (.ref b22), .val (.ref b44), .val (.long (accA 3 k0 (accA 2 k0 (accA 1 k0 (accA 0 k0 q3 (lowA b0_)) (lowA b1_)) (lowA b2_)) (lowA b3_))), .second, .val (.long (accA 3 k0 (accA 2 k0 (accA 1 k0 (accA 0 k0 q4 (highA b0_)) (highA b1_)) (highA b2_)) (highA b3_))), .second, .val (.int (1 : Int32))] [(.int (0 : Int32)), (.ref b44)])) _
      refine X76.laload hx (j := (0 : Int32)) (v := (.long (accA 3 k0 (accA 2 k0 (accA 1 k0 (accA 0 k0 q3 (lowA b0_)) (lowA b1_)) (lowA b2_)) (lowA b3_)))) (by rw [e76]; exact A2.1) (State.isArrayOf_alike hZ.alike A2.2.1) A2.2.2 (by rw [own_sizeJ l2]; exact (by decide : ¬ ((0 : Int32) < 0 ∨ 2 ≤ (0 : Int32).toNatClampNeg))) (own_atJ l2 (show (0 : Int32).toNatClampNeg < 2 by decide)) (g := (mkF m 302 #[.val (.int p1), .val (.int p2), .val (.long q3), .second, .val (.long q4), .second, .val (.int (Int32.ofNat k0)), .val (.int b0_), .val (.int b1_), .val (.int b2_), .val (.int b3_), .val (.ref b22), .val (.ref b44), .val (.long (accA 3 k0 (accA 2 k0 (accA 1 k0 (accA 0 k0 q3 (lowA b0_)) (lowA b1_)) (lowA b2_)) (lowA b3_))), .second, .val (.long (accA 3 k0 (accA 2 k0 (accA 1 k0 (accA 0 k0 q4 (highA b0_)) (highA b1_)) (highA b2_)) (highA b3_))), .second, .val (.int (1 : Int32))] [(.int (0 : Int32)), (.ref b44)])) rfl rfl (hb hby at_302) _ ?_
      show Steps p.tables e below (T76.setTop (mkF m 303 #[.val (.int p1), .val (.int p2), .val (.long q3), .second, .val (.long q4), .second, .val (.int (Int32.ofNat k0)), .val (.int b0_), .val (.int b1_), .val (.int b2_), .val (.int b3_), .val (.ref b22), .val (.ref b44), .val (.long (accA 3 k0 (accA 2 k0 (accA 1 k0 (accA 0 k0 q3 (lowA b0_)) (lowA b1_)) (lowA b2_)) (lowA b3_))), .second, .val (.long (accA 3 k0 (accA 2 k0 (accA 1 k0 (accA 0 k0 q4 (highA b0_)) (highA b1_)) (highA b2_)) (highA b3_))), .second, .val (.int (1 : Int32))] [(.long (accA 3 k0 (accA 2 k0 (accA 1 k0 (accA 0 k0 q3 (lowA b0_)) (lowA b1_)) (lowA b2_)) (lowA b3_)))])) _
      refine XS.lload X76.here hx rfl (hb hby at_303) rfl ?_
      show Steps p.tables e below (T76.setTop (mkF m 305 #[.val (.int p1), .val (.int p2), .val (.long q3), .second, .val (.long q4), .second, .val (.int (Int32.ofNat k0)), .val (.int b0_), .val (.int b1_), .val (.int b2_), .val (.int b3_), .val (.ref b22), .val (.ref b44), .val (.long (accA 3 k0 (accA 2 k0 (accA 1 k0 (accA 0 k0 q3 (lowA b0_)) (lowA b1_)) (lowA b2_)) (lowA b3_))), .second, .val (.long (accA 3 k0 (accA 2 k0 (accA 1 k0 (accA 0 k0 q4 (highA b0_)) (highA b1_)) (highA b2_)) (highA b3_))), .second, .val (.int (1 : Int32))] [(.long (accA 3 k0 (accA 2 k0 (accA 1 k0 (accA 0 k0 q3 (lowA b0_)) (lowA b1_)) (lowA b2_)) (lowA b3_))), (.long (accA 3 k0 (accA 2 k0 (accA 1 k0 (accA 0 k0 q3 (lowA b0_)) (lowA b1_)) (lowA b2_)) (lowA b3_)))])) _
      refine XS.lcmp X76.here hx rfl (hb hby at_305) rfl ?_
      show Steps p.tables e below (T76.setTop (mkF m 306 #[.val (.int p1), .val (.int p2), .val (.long q3), .second, .val (.long q4), .second, .val (.int (Int32.ofNat k0)), .val (.int b0_), .val (.int b1_), .val (.int b2_), .val (.int b3_), .val (.ref b22), .val (.ref b44), .val (.long (accA 3 k0 (accA 2 k0 (accA 1 k0 (accA 0 k0 q3 (lowA b0_)) (lowA b1_)) (lowA b2_)) (lowA b3_))), .second, .val (.long (accA 3 k0 (accA 2 k0 (accA 1 k0 (accA 0 k0 q4 (highA b0_)) (highA b1_)) (highA b2_)) (highA b3_))), .second, .val (.int (1 : Int32))] [(.int (lcmpW (accA 3 k0 (accA 2 k0 (accA 1 k0 (accA 0 k0 q3 (lowA b0_)) (lowA b1_)) (lowA b2_)) (lowA b3_)) (accA 3 k0 (accA 2 k0 (accA 1 k0 (accA 0 k0 q3 (lowA b0_)) (lowA b1_)) (lowA b2_)) (lowA b3_))))])) _
      refine XS.ifNo X76.here hx rfl (hb hby at_306) rfl ((if0 _ _).trans (teq (show (lcmpW (accA 3 k0 (accA 2 k0 (accA 1 k0 (accA 0 k0 q3 (lowA b0_)) (lowA b1_)) (lowA b2_)) (lowA b3_)) (accA 3 k0 (accA 2 k0 (accA 1 k0 (accA 0 k0 q3 (lowA b0_)) (lowA b1_)) (lowA b2_)) (lowA b3_))) = (0 : Int32) from ((lw_eq _ _).mpr rfl))).2) ?_
      show Steps p.tables e below (T76.setTop (mkF m 309 #[.val (.int p1), .val (.int p2), .val (.long q3), .second, .val (.long q4), .second, .val (.int (Int32.ofNat k0)), .val (.int b0_), .val (.int b1_), .val (.int b2_), .val (.int b3_), .val (.ref b22), .val (.ref b44), .val (.long (accA 3 k0 (accA 2 k0 (accA 1 k0 (accA 0 k0 q3 (lowA b0_)) (lowA b1_)) (lowA b2_)) (lowA b3_))), .second, .val (.long (accA 3 k0 (accA 2 k0 (accA 1 k0 (accA 0 k0 q4 (highA b0_)) (highA b1_)) (highA b2_)) (highA b3_))), .second, .val (.int (1 : Int32))] [])) _
      refine XS.aload X76.here hx rfl (hb hby at_309) rfl rfl ?_
      show Steps p.tables e below (T76.setTop (mkF m 311 #[.val (.int p1), .val (.int p2), .val (.long q3), .second, .val (.long q4), .second, .val (.int (Int32.ofNat k0)), .val (.int b0_), .val (.int b1_), .val (.int b2_), .val (.int b3_), .val (.ref b22), .val (.ref b44), .val (.long (accA 3 k0 (accA 2 k0 (accA 1 k0 (accA 0 k0 q3 (lowA b0_)) (lowA b1_)) (lowA b2_)) (lowA b3_))), .second, .val (.long (accA 3 k0 (accA 2 k0 (accA 1 k0 (accA 0 k0 q4 (highA b0_)) (highA b1_)) (highA b2_)) (highA b3_))), .second, .val (.int (1 : Int32))] [(.ref b44)])) _
      refine XS.iconst X76.here hx rfl (hb hby at_311) ?_
      show Steps p.tables e below (T76.setTop (mkF m 312 #[.val (.int p1), .val (.int p2), .val (.long q3), .second, .val (.long q4), .second, .val (.int (Int32.ofNat k0)), .val (.int b0_), .val (.int b1_), .val (.int b2_), .val (.int b3_), .val (.ref b22), .val (.ref b44), .val (.long (accA 3 k0 (accA 2 k0 (accA 1 k0 (accA 0 k0 q3 (lowA b0_)) (lowA b1_)) (lowA b2_)) (lowA b3_))), .second, .val (.long (accA 3 k0 (accA 2 k0 (accA 1 k0 (accA 0 k0 q4 (highA b0_)) (highA b1_)) (highA b2_)) (highA b3_))), .second, .val (.int (1 : Int32))] [(.int (1 : Int32)), (.ref b44)])) _
      refine X76.laload hx (j := (1 : Int32)) (v := (.long (accA 3 k0 (accA 2 k0 (accA 1 k0 (accA 0 k0 q4 (highA b0_)) (highA b1_)) (highA b2_)) (highA b3_)))) (by rw [e76]; exact A2.1) (State.isArrayOf_alike hZ.alike A2.2.1) A2.2.2 (by rw [own_sizeJ l2]; exact (by decide : ¬ ((1 : Int32) < 0 ∨ 2 ≤ (1 : Int32).toNatClampNeg))) (own_atJ l2 (show (1 : Int32).toNatClampNeg < 2 by decide)) (g := (mkF m 312 #[.val (.int p1), .val (.int p2), .val (.long q3), .second, .val (.long q4), .second, .val (.int (Int32.ofNat k0)), .val (.int b0_), .val (.int b1_), .val (.int b2_), .val (.int b3_), .val (.ref b22), .val (.ref b44), .val (.long (accA 3 k0 (accA 2 k0 (accA 1 k0 (accA 0 k0 q3 (lowA b0_)) (lowA b1_)) (lowA b2_)) (lowA b3_))), .second, .val (.long (accA 3 k0 (accA 2 k0 (accA 1 k0 (accA 0 k0 q4 (highA b0_)) (highA b1_)) (highA b2_)) (highA b3_))), .second, .val (.int (1 : Int32))] [(.int (1 : Int32)), (.ref b44)])) rfl rfl (hb hby at_312) _ ?_
      show Steps p.tables e below (T76.setTop (mkF m 313 #[.val (.int p1), .val (.int p2), .val (.long q3), .second, .val (.long q4), .second, .val (.int (Int32.ofNat k0)), .val (.int b0_), .val (.int b1_), .val (.int b2_), .val (.int b3_), .val (.ref b22), .val (.ref b44), .val (.long (accA 3 k0 (accA 2 k0 (accA 1 k0 (accA 0 k0 q3 (lowA b0_)) (lowA b1_)) (lowA b2_)) (lowA b3_))), .second, .val (.long (accA 3 k0 (accA 2 k0 (accA 1 k0 (accA 0 k0 q4 (highA b0_)) (highA b1_)) (highA b2_)) (highA b3_))), .second, .val (.int (1 : Int32))] [(.long (accA 3 k0 (accA 2 k0 (accA 1 k0 (accA 0 k0 q4 (highA b0_)) (highA b1_)) (highA b2_)) (highA b3_)))])) _
      refine XS.lload X76.here hx rfl (hb hby at_313) rfl ?_
      show Steps p.tables e below (T76.setTop (mkF m 315 #[.val (.int p1), .val (.int p2), .val (.long q3), .second, .val (.long q4), .second, .val (.int (Int32.ofNat k0)), .val (.int b0_), .val (.int b1_), .val (.int b2_), .val (.int b3_), .val (.ref b22), .val (.ref b44), .val (.long (accA 3 k0 (accA 2 k0 (accA 1 k0 (accA 0 k0 q3 (lowA b0_)) (lowA b1_)) (lowA b2_)) (lowA b3_))), .second, .val (.long (accA 3 k0 (accA 2 k0 (accA 1 k0 (accA 0 k0 q4 (highA b0_)) (highA b1_)) (highA b2_)) (highA b3_))), .second, .val (.int (1 : Int32))] [(.long (accA 3 k0 (accA 2 k0 (accA 1 k0 (accA 0 k0 q4 (highA b0_)) (highA b1_)) (highA b2_)) (highA b3_))), (.long (accA 3 k0 (accA 2 k0 (accA 1 k0 (accA 0 k0 q4 (highA b0_)) (highA b1_)) (highA b2_)) (highA b3_)))])) _
      refine XS.lcmp X76.here hx rfl (hb hby at_315) rfl ?_
      show Steps p.tables e below (T76.setTop (mkF m 316 #[.val (.int p1), .val (.int p2), .val (.long q3), .second, .val (.long q4), .second, .val (.int (Int32.ofNat k0)), .val (.int b0_), .val (.int b1_), .val (.int b2_), .val (.int b3_), .val (.ref b22), .val (.ref b44), .val (.long (accA 3 k0 (accA 2 k0 (accA 1 k0 (accA 0 k0 q3 (lowA b0_)) (lowA b1_)) (lowA b2_)) (lowA b3_))), .second, .val (.long (accA 3 k0 (accA 2 k0 (accA 1 k0 (accA 0 k0 q4 (highA b0_)) (highA b1_)) (highA b2_)) (highA b3_))), .second, .val (.int (1 : Int32))] [(.int (lcmpW (accA 3 k0 (accA 2 k0 (accA 1 k0 (accA 0 k0 q4 (highA b0_)) (highA b1_)) (highA b2_)) (highA b3_)) (accA 3 k0 (accA 2 k0 (accA 1 k0 (accA 0 k0 q4 (highA b0_)) (highA b1_)) (highA b2_)) (highA b3_))))])) _
      refine XS.ifNo X76.here hx rfl (hb hby at_316) rfl ((if0 _ _).trans (teq (show (lcmpW (accA 3 k0 (accA 2 k0 (accA 1 k0 (accA 0 k0 q4 (highA b0_)) (highA b1_)) (highA b2_)) (highA b3_)) (accA 3 k0 (accA 2 k0 (accA 1 k0 (accA 0 k0 q4 (highA b0_)) (highA b1_)) (highA b2_)) (highA b3_))) = (0 : Int32) from ((lw_eq _ _).mpr rfl))).2) ?_
      show Steps p.tables e below (T76.setTop (mkF m 319 #[.val (.int p1), .val (.int p2), .val (.long q3), .second, .val (.long q4), .second, .val (.int (Int32.ofNat k0)), .val (.int b0_), .val (.int b1_), .val (.int b2_), .val (.int b3_), .val (.ref b22), .val (.ref b44), .val (.long (accA 3 k0 (accA 2 k0 (accA 1 k0 (accA 0 k0 q3 (lowA b0_)) (lowA b1_)) (lowA b2_)) (lowA b3_))), .second, .val (.long (accA 3 k0 (accA 2 k0 (accA 1 k0 (accA 0 k0 q4 (highA b0_)) (highA b1_)) (highA b2_)) (highA b3_))), .second, .val (.int (1 : Int32))] [])) _
      refine XS.iload X76.here hx rfl (hb hby at_319) rfl ?_
      show Steps p.tables e below (T76.setTop (mkF m 321 #[.val (.int p1), .val (.int p2), .val (.long q3), .second, .val (.long q4), .second, .val (.int (Int32.ofNat k0)), .val (.int b0_), .val (.int b1_), .val (.int b2_), .val (.int b3_), .val (.ref b22), .val (.ref b44), .val (.long (accA 3 k0 (accA 2 k0 (accA 1 k0 (accA 0 k0 q3 (lowA b0_)) (lowA b1_)) (lowA b2_)) (lowA b3_))), .second, .val (.long (accA 3 k0 (accA 2 k0 (accA 1 k0 (accA 0 k0 q4 (highA b0_)) (highA b1_)) (highA b2_)) (highA b3_))), .second, .val (.int (1 : Int32))] [(.int (1 : Int32))])) _
      refine XS.ifNo X76.here hx rfl (hb hby at_321) rfl ((if0 _ _).trans (feq (show ¬ ((1 : Int32) = (0 : Int32)) from (by decide : ¬ ((1 : Int32) = (0 : Int32))))).1) ?_
      show Steps p.tables e below (T76.setTop (mkF m 324 #[.val (.int p1), .val (.int p2), .val (.long q3), .second, .val (.long q4), .second, .val (.int (Int32.ofNat k0)), .val (.int b0_), .val (.int b1_), .val (.int b2_), .val (.int b3_), .val (.ref b22), .val (.ref b44), .val (.long (accA 3 k0 (accA 2 k0 (accA 1 k0 (accA 0 k0 q3 (lowA b0_)) (lowA b1_)) (lowA b2_)) (lowA b3_))), .second, .val (.long (accA 3 k0 (accA 2 k0 (accA 1 k0 (accA 0 k0 q4 (highA b0_)) (highA b1_)) (highA b2_)) (highA b3_))), .second, .val (.int (1 : Int32))] [])) _
      refine XS.iconst X76.here hx rfl (hb hby at_324) ?_
      show Steps p.tables e below (T76.setTop (mkF m 325 #[.val (.int p1), .val (.int p2), .val (.long q3), .second, .val (.long q4), .second, .val (.int (Int32.ofNat k0)), .val (.int b0_), .val (.int b1_), .val (.int b2_), .val (.int b3_), .val (.ref b22), .val (.ref b44), .val (.long (accA 3 k0 (accA 2 k0 (accA 1 k0 (accA 0 k0 q3 (lowA b0_)) (lowA b1_)) (lowA b2_)) (lowA b3_))), .second, .val (.long (accA 3 k0 (accA 2 k0 (accA 1 k0 (accA 0 k0 q4 (highA b0_)) (highA b1_)) (highA b2_)) (highA b3_))), .second, .val (.int (1 : Int32))] [(.int (1 : Int32))])) _
      refine XS.goto X76.here hx rfl (pc0 := 325) (pc' := 329) rfl (hb hby at_325) (by decide) (by decide) ?_
      show Steps p.tables e below (T76.setTop (mkF m 329 #[.val (.int p1), .val (.int p2), .val (.long q3), .second, .val (.long q4), .second, .val (.int (Int32.ofNat k0)), .val (.int b0_), .val (.int b1_), .val (.int b2_), .val (.int b3_), .val (.ref b22), .val (.ref b44), .val (.long (accA 3 k0 (accA 2 k0 (accA 1 k0 (accA 0 k0 q3 (lowA b0_)) (lowA b1_)) (lowA b2_)) (lowA b3_))), .second, .val (.long (accA 3 k0 (accA 2 k0 (accA 1 k0 (accA 0 k0 q4 (highA b0_)) (highA b1_)) (highA b2_)) (highA b3_))), .second, .val (.int (1 : Int32))] [(.int (1 : Int32))])) _
      exact k)
  obtain ⟨fs, hr, hrun, hended, hW, hsame⟩ := X76.leave (v := some (.int (1 : Int32))) (fun h => by rw [Bd.returns] at h; cases h)
  refine ⟨_, _, pre99 _ (retN X76 hx (t := .boolean) Bd.returns (by simp) (hb hby at_329) hr), hrun, hended, _, _, rfl, ?_, ⟨_, rfl⟩, hW, hsame.mono (by decide) (by decide)⟩
  show Q0 Z p1 p2 q3 q4 h0 n0 _ T76.heap _
  exact ⟨rfl, N76⟩
set_option maxRecDepth 65536 in
set_option maxHeartbeats 40000000 in
theorem comes_1 {Post : Tables → Env → Array Value → State → Outcome → State → Prop} (hpost : ∀ tb e args s v u, (limb_1_1.after args s (.returned v) u = true ∧ limb_1_2.after args s (.returned v) u = true ∧ True) → FrameEnd s (.returned v) u (Jvm.fieldLocs frame_1_writes args s ++ Jvm.arrayLocs frame_1_arrays args s ++ Jvm.staticLocs frame_1_statics s) 16 128 → Post tb e args s (.returned v) u) :
    ArmFor flags0 classFile x code maxLocals ret World_1 tables_1 room_1 Calls_1 rest_1 Pre_1 Post := by
  intro l hfl _ _ p e ha hc hk s m args below hf hA hF happ hP
  obtain ⟨hcalls, hrest, hpre⟩ := hP
  obtain ⟨-, -, -, hnamed, -, -, -, hat⟩ := (Spec.applies_iff hf).mp happ
  obtain ⟨hg, hn⟩ := and_e (Cond.before_iff.mp (show (Jvm.Cond.and given_1 narrow_1).before args s = true from hpre))
  obtain ⟨g0, gr0⟩ := and_e hg
  obtain ⟨w0, w1, w2, w3, rfl⟩ : ∃ w0 w1 w2 w3 : Value, args = #[w0, w1, w2, w3] := by
    have hs : args.size = 4 := by simpa [Cond.value, given_1] using g0
    obtain ⟨L⟩ := args
    match L, hs with
    | [w0, w1, w2, w3], _ => exact ⟨w0, w1, w2, w3, rfl⟩
  have hw := fun d (hd : d ∈ tables_1) => atoms_spec (ws := Jvm.Cond.code x code maxLocals ret :: tables_1) hat d (List.mem_cons_of_mem _ hd)
  obtain ⟨g1, gr1⟩ := and_e gr0
  obtain ⟨i0, ei0⟩ := is_v g1
  obtain rfl : w0 = (.int i0) := Option.some.inj ei0
  obtain ⟨g2, gr2⟩ := and_e gr1
  obtain ⟨i1, ei1⟩ := is_v g2
  obtain rfl : w1 = (.int i1) := Option.some.inj ei1
  obtain ⟨g3, gr3⟩ := and_e gr2
  obtain ⟨i2, ei2⟩ := isL_v g3
  obtain rfl : w2 = (.long i2) := Option.some.inj ei2
  obtain ⟨i3, ei3⟩ := isL_v gr3
  obtain rfl : w3 = (.long i3) := Option.some.inj ei3
  obtain ⟨n, o, h1, h2, h3, _, L, rfl, ⟨rfl, N⟩, hq⟩ := rm0 l s _ hw tables_1 i0 i1 i2 i3 s.heap s.heap.size (Nat.le_refl _)  p e ha hc hk s m _ below hf ((Spec.applies_iff_loose hf).mp happ).1 ⟨rfl, State.Warmed39.refl s, rfl⟩ trivial
  refine ⟨n, _, h1, h2, h3, hpost _ _ _ _ _ _ ⟨Cond.after_iff.mpr rfl, Cond.after_iff.mpr (eq_i res_at (Term.int_eval (1)) rfl), trivial⟩ ⟨hq.1, hq.2.1, (hq.2.2.sift fun y hy => Or.inr (N y hy)).mono (by decide) (by decide)⟩⟩
theorem main_1_1 : Claimed_1_1 := comes_1 fun _ _ _ _ _ _ h hF => ⟨h.1, hF⟩
theorem main_1_2 : Claimed_1_2 := comes_1 fun _ _ _ _ _ _ h hF => ⟨h.2.1, hF⟩
end Jvm.Pilot.@@N@@
namespace Jvm.Pilot.@@N@@
open Jvm Jvm.ClassFile Sem Op Lib Jvm.Free Jvm.Stand Jvm.Pilot.@@N@@.Jvm.D
/-! MADE BY PROGRAM (witnessworld.py) out of the Statement's table words and the real class files: 11 classes; the members and pool entries that the words name. The judged class is class 1, her method 1. -/
namespace start1
open Jvm.ClassFile
def u (s : String) : CpInfo := .utf8 (stringToUtf16 s)
/-- a pool by its gaps: so many unusable entries, then the entry; so many at the end -/
def gap : Nat → List CpInfo → List CpInfo
  | 0, r => r
  | n + 1, r => .unusable :: gap n r
def poolList (es : List (Nat × CpInfo)) (last : Nat) : List CpInfo := es.foldr (fun e r => gap e.1 (e.2 :: r)) (gap last [])
def pool (es : List (Nat × CpInfo)) (last : Nat) : Array CpInfo := ⟨poolList es last⟩
def fileOf (pool : Array CpInfo) (this : Nat) (attrs : Array Attribute := #[]) (ms : Array MethodInfo := #[]) (fl : Nat := 33) (sup : Nat := 0) (ifs : Array Nat := #[]) (fds : Array FieldInfo := #[]) : ClassFile where
  minorVersion := 0
  majorVersion := 65
  constantPool := pool
  accessFlags := fl
  thisClass := this
  superClass := sup
  interfaces := ifs
  fields := fds
  methods := ms
  attributes := attrs
def plain (name : String) (sup : Option ClassId) : Class where
  name := name
  kind := .ordinary
  loader := none
  accessFlags := 33
  super := sup
  interfaces := #[]
  cf := none
  fields := #[]
  methods := #[]
  instanceTypes := #[]
  staticTypes := #[]
  resolved := #[]
  callSites := []
  init := .initialized
  statics := none
  mirror := none

def pool0 : Array CpInfo := pool [(5, u "<init>"), (0, u "()V"), (1, .class_ 10), (1, u "java/lang/Object")] 113

def k0m0 : Method := { name := "<init>", desc := "()V", sig := { parameters := [], returnType := none }, accessFlags := 1, code := none }
/-- java/lang/Object -/
def k0 : Class := { plain "java/lang/Object" none with
  accessFlags := 33
  interfaces := #[]
  cf := some (fileOf pool0 8 #[] #[{ accessFlags := 1, nameIndex := 5, descriptorIndex := 6, attributes := #[] }] 33 0 #[] #[])
  fields := #[]
  methods := #[k0m0]
  instanceTypes := #[]
  staticTypes := #[]
  resolved := Array.replicate 124 none
  statics := none }

def pool1 : Array CpInfo := pool [(2, .class_ 4), (1, u "java/lang/Object"), (0, u "<init>"), (0, u "()V"), (0, .integer 2147483647), (0, .methodref 9 10), (0, .class_ 11), (0, .nameAndType 12 13), (0, u "com/example/sluice/sluice/engine/OrderedUsers$Gathered"), (0, u "mark"), (0, u "([B[J)V"), (0, .methodref 15 16), (0, .class_ 17), (0, .nameAndType 18 19), (0, u "com/example/sluice/sluice/engine/GatheredMarkPinLaw"), (0, u "low"), (0, u "(B)J"), (0, .methodref 15 21), (0, .nameAndType 22 19), (0, u "high"), (2, u "law"), (0, u "(IIJJ)Z")] 11

def k1m0 : Method := { name := "<init>", desc := "()V", sig := { parameters := [], returnType := none }, accessFlags := 1, code := none }
def k1c1 : Code := { maxStack := 5, maxLocals := 18, code := code, exceptionTable := #[], attributes := #[] }
def k1m1 : Method := { name := "law", desc := "(IIJJ)Z", sig := { parameters := [.int, .int, .long, .long], returnType := some .boolean }, accessFlags := 9, code := some k1c1 }
def k1c2 : Code := { maxStack := 3, maxLocals := 2, code := method_3_code, exceptionTable := #[], attributes := #[] }
def k1m2 : Method := { name := "low", desc := "(B)J", sig := { parameters := [.byte], returnType := some .long }, accessFlags := 10, code := some k1c2 }
def k1c3 : Code := { maxStack := 4, maxLocals := 2, code := method_4_code, exceptionTable := #[], attributes := #[] }
def k1m3 : Method := { name := "high", desc := "(B)J", sig := { parameters := [.byte], returnType := some .long }, accessFlags := 10, code := some k1c3 }
/-- com/example/sluice/sluice/engine/GatheredMarkPinLaw -/
def k1 : Class := { plain "com/example/sluice/sluice/engine/GatheredMarkPinLaw" (some 0) with
  accessFlags := 49
  interfaces := #[]
  cf := some (fileOf pool1 15 #[] #[{ accessFlags := 1, nameIndex := 5, descriptorIndex := 6, attributes := #[] }, { accessFlags := 9, nameIndex := 25, descriptorIndex := 26, attributes := #[] }, { accessFlags := 10, nameIndex := 18, descriptorIndex := 19, attributes := #[] }, { accessFlags := 10, nameIndex := 22, descriptorIndex := 19, attributes := #[] }] 49 2 #[] #[])
  fields := #[]
  methods := #[k1m0, k1m1, k1m2, k1m3]
  instanceTypes := #[]
  staticTypes := #[]
  resolved := Array.replicate 38 none
  statics := none }

def pool2 : Array CpInfo := pool [(2, .class_ 4), (1, u "java/lang/Object"), (3, .class_ 10), (1, u "com/example/sluice/sluice/engine/OrderedUsers$Gathered"), (0, u "ids"), (0, u "[[B"), (2, u "ascii"), (0, u "[J"), (2, u "first"), (0, u "I"), (16, u "mark"), (0, u "([B[J)V"), (37, .class_ 77), (0, u "com/example/sluice/sluice/engine/OrderedUsers")] 16

def k2c0 : Code := { maxStack := 7, maxLocals := 6, code := prog_83_method_3_code, exceptionTable := #[], attributes := #[] }
def k2m0 : Method := { name := "mark", desc := "([B[J)V", sig := { parameters := [(.array .byte), (.array .long)], returnType := none }, accessFlags := 8, code := some k2c0 }
/-- com/example/sluice/sluice/engine/OrderedUsers$Gathered -/
def k2 : Class := { plain "com/example/sluice/sluice/engine/OrderedUsers$Gathered" (some 0) with
  accessFlags := 49
  interfaces := #[]
  cf := some (fileOf pool2 8 #[.nestHost 76] #[{ accessFlags := 8, nameIndex := 37, descriptorIndex := 38, attributes := #[] }] 49 2 #[] #[{ accessFlags := 18, nameIndex := 11, descriptorIndex := 12, attributes := #[] }, { accessFlags := 18, nameIndex := 15, descriptorIndex := 16, attributes := #[] }, { accessFlags := 18, nameIndex := 19, descriptorIndex := 20, attributes := #[] }])
  fields := #[{ name := "ids", type := (.array (.array .byte)), accessFlags := 18, slot := 0, constantValue := 0 }, { name := "ascii", type := (.array .long), accessFlags := 18, slot := 1, constantValue := 0 }, { name := "first", type := .int, accessFlags := 18, slot := 2, constantValue := 0 }]
  methods := #[k2m0]
  instanceTypes := #[(.array (.array .byte)), (.array .long), .int]
  staticTypes := #[]
  resolved := Array.replicate 94 none
  statics := none }

def pool3 : Array CpInfo := pool [(1, u "java/lang/Cloneable"), (0, .class_ 1), (0, u "java/lang/Object"), (0, .class_ 3)] 3

/-- java/lang/Cloneable -/
def k3 : Class := { plain "java/lang/Cloneable" (some 0) with
  accessFlags := 1537
  interfaces := #[]
  cf := some (fileOf pool3 2 #[] #[] 1537 4 #[] #[])
  fields := #[]
  methods := #[]
  instanceTypes := #[]
  staticTypes := #[]
  resolved := Array.replicate 8 none
  statics := none }

def pool4 : Array CpInfo := pool [(1, u "java/io/Serializable"), (0, .class_ 1), (0, u "java/lang/Object"), (0, .class_ 3)] 3

/-- java/io/Serializable -/
def k4 : Class := { plain "java/io/Serializable" (some 0) with
  accessFlags := 1537
  interfaces := #[]
  cf := some (fileOf pool4 2 #[] #[] 1537 4 #[] #[])
  fields := #[]
  methods := #[]
  instanceTypes := #[]
  staticTypes := #[]
  resolved := Array.replicate 8 none
  statics := none }

/-- the primitive byte -/
def k5 : Class := { plain "byte" none with kind := .primitive 'B', accessFlags := 0x411 }
/-- [B -/
def k6 : Class := { plain "[B" (some 0) with kind := .array 5 .byte, interfaces := #[3, 4], accessFlags := 1041 }

/-- the primitive int -/
def k7 : Class := { plain "int" none with kind := .primitive 'I', accessFlags := 0x411 }
/-- [I -/
def k8 : Class := { plain "[I" (some 0) with kind := .array 7 .int, interfaces := #[3, 4], accessFlags := 1041 }

/-- the primitive long -/
def k9 : Class := { plain "long" none with kind := .primitive 'J', accessFlags := 0x411 }
/-- [J -/
def k10 : Class := { plain "[J" (some 0) with kind := .array 9 .long, interfaces := #[3, 4], accessFlags := 1041 }

def heap : Heap := #[]
def classes : Array Class := #[k0, k1, k2, k3, k4, k5, k6, k7, k8, k9, k10]
def interned : List (Array UInt16 × Addr) := []
def slotsUsed : Nat := 0
def theMethod : MethodId := ⟨1, 1⟩
def args0 : Array Value := #[.int 5, .int 7, .long 3, .long 4]
def aboutOver (below : List Frame) : State where
  vm := { classes := classes, interned := interned.toArray }
  heap := heap
  slotsUsed := slotsUsed
  threads := #[{ frames := .invoking theMethod args0 :: below }]
def below0 : List Frame := [.native { method := ⟨0, 0⟩, args := #[] }]
def about1 : State := aboutOver below0
def p0 : Program := .bare "" "" ""
def e0 : Env := launch0.env 0 0 0
theorem w_frames : about1.frames = Frame.invoking theMethod args0 :: below0 := rfl
set_option maxRecDepth 65536 in
theorem w_args : argsFit about1.vm theMethod args0 = true := by decide +kernel
set_option maxRecDepth 65536 in
theorem w_heap : heapFits about1 = true := by decide +kernel
set_option maxRecDepth 65536 in
theorem w_runnable : about1.curStatus? = some .runnable := by decide +kernel
set_option maxRecDepth 65536 in
theorem w_alone : about1.alone = true := by decide +kernel
set_option maxRecDepth 65536 in
theorem w_named : about1.methodNamed? x = some theMethod := by decide +kernel
set_option maxRecDepth 65536 in
theorem w_hears : about1.hears theMethod below0 = true := by decide +kernel
set_option maxRecDepth 65536 in
theorem w_ripe : about1.ripe theMethod args0 below0 = true := by decide +kernel
theorem w_running : about1.status = .running := rfl
set_option maxRecDepth 65536 in
theorem w_room : about1.hasRoom e0.platform room_1 = true :=
  launch0.hasRoom_least _ room_1 (by decide +kernel) (by decide +kernel) (by decide +kernel) (by decide +kernel) (by decide +kernel) (by decide +kernel)
theorem allAtoms_all (ts : List Jvm.Cond) (a : Array Jvm.Value) (st : Jvm.State) : (allAtoms ts).before a st = ts.all (fun c => c.before a st) := by
  induction ts with
  | nil => rfl
  | cons c t ih =>
    show (Jvm.Cond.and c (allAtoms t)).before a st = _
    rw [Jvm.Cond.before_and, ih, List.all_cons]
def words1 : List Jvm.Cond := Jvm.Cond.code x code maxLocals ret :: tables_1
/-- a 'code' word, met by the world's own term for the bytes: nothing is compared byte by byte -/
theorem code_word {y : MethodName} {bytes : ByteArray} {mx : Nat} {rt : Option FieldType} {a : Array Value} {s : State} {m : MethodId} {meth : Method} {c : Code} (h1 : s.methodNamed? y = some m) (h2 : s.vm.method? m = some meth) (h3 : meth.code = some c) (h4 : c.code = bytes)
    (h5 : (c.maxLocals == mx && c.exceptionTable.isEmpty && decide (c.maxStack ≤ mostOperands) && decide (meth.sig.returnType = rt) && !meth.locks && decide (parseMethodDescriptor y.desc = some meth.sig)) = true) : (Jvm.Cond.code y bytes mx rt).before a s = true := by
  simp only [Bool.and_eq_true, beq_iff_eq, Bool.not_eq_true', decide_eq_true_eq] at h5
  obtain ⟨⟨⟨⟨⟨g1, g2⟩, g3⟩, g4⟩, g5⟩, g6⟩ := h5
  simp [Cond.before, Cond.holds, Cond.value, h1, h2, h3, h4, g1, g2, g3, g4, g5, g6]
def isCode : Jvm.Cond → Bool
  | .code _ _ _ _ => true
  | _ => false
theorem all_split {L : List Jvm.Cond} {P : Jvm.Cond → Bool} (h1 : L.all (fun c => isCode c || P c) = true) (h2 : ∀ c ∈ L.filter isCode, P c = true) : L.all P = true := by
  refine List.all_eq_true.mpr fun c hc => ?_
  have h := List.all_eq_true.mp h1 c hc
  rcases Bool.eq_false_or_eq_true (isCode c) with hi | hi
  · exact h2 c (List.mem_filter.mpr ⟨hc, hi⟩)
  · simpa [hi] using h
set_option maxRecDepth 65536 in
theorem w_c0 : (Jvm.Cond.code x code maxLocals ret).before args0 about1 = true := code_word (m := ⟨1, 1⟩) (meth := k1m1) (c := k1c1) (by decide +kernel) rfl rfl rfl (by decide +kernel)
set_option maxRecDepth 65536 in
theorem w_c1 : (Jvm.Cond.code ({ cls := "com/example/sluice/sluice/engine/OrderedUsers$Gathered", name := "mark", desc := "([B[J)V" } : Jvm.MethodName) prog_83_method_3_code (6 : Nat) (Option.none : Option Jvm.ClassFile.FieldType)).before args0 about1 = true := code_word (m := ⟨2, 0⟩) (meth := k2m0) (c := k2c0) (by decide +kernel) rfl rfl rfl (by decide +kernel)
set_option maxRecDepth 65536 in
theorem w_c2 : (Jvm.Cond.code ({ cls := "com/example/sluice/sluice/engine/GatheredMarkPinLaw", name := "low", desc := "(B)J" } : Jvm.MethodName) method_3_code (2 : Nat) (Option.some Jvm.ClassFile.FieldType.long)).before args0 about1 = true := code_word (m := ⟨1, 2⟩) (meth := k1m2) (c := k1c2) (by decide +kernel) rfl rfl rfl (by decide +kernel)
set_option maxRecDepth 65536 in
theorem w_c3 : (Jvm.Cond.code ({ cls := "com/example/sluice/sluice/engine/GatheredMarkPinLaw", name := "high", desc := "(B)J" } : Jvm.MethodName) method_4_code (2 : Nat) (Option.some Jvm.ClassFile.FieldType.long)).before args0 about1 = true := code_word (m := ⟨1, 3⟩) (meth := k1m3) (c := k1c3) (by decide +kernel) rfl rfl rfl (by decide +kernel)
def codes1 : List Jvm.Cond := [Jvm.Cond.code x code maxLocals ret, Jvm.Cond.code ({ cls := "com/example/sluice/sluice/engine/OrderedUsers$Gathered", name := "mark", desc := "([B[J)V" } : Jvm.MethodName) prog_83_method_3_code (6 : Nat) (Option.none : Option Jvm.ClassFile.FieldType), Jvm.Cond.code ({ cls := "com/example/sluice/sluice/engine/GatheredMarkPinLaw", name := "low", desc := "(B)J" } : Jvm.MethodName) method_3_code (2 : Nat) (Option.some Jvm.ClassFile.FieldType.long), Jvm.Cond.code ({ cls := "com/example/sluice/sluice/engine/GatheredMarkPinLaw", name := "high", desc := "(B)J" } : Jvm.MethodName) method_4_code (2 : Nat) (Option.some Jvm.ClassFile.FieldType.long)]
set_option maxRecDepth 65536 in
theorem codes_eq : words1.filter isCode = codes1 := rfl
theorem w_codes : ∀ c ∈ words1.filter isCode, c.before args0 about1 = true := by
  rw [codes_eq]
  intro c hc
  simp only [codes1, List.mem_cons, List.not_mem_nil, or_false] at hc
  rcases hc with rfl | rfl | rfl | rfl
  · exact w_c0
  · exact w_c1
  · exact w_c2
  · exact w_c3
set_option maxRecDepth 65536 in
theorem w_t1 : words1.all (fun c => isCode c || c.before args0 about1) = true := by decide +kernel
theorem w_tables : (allAtoms (Jvm.Cond.code x code maxLocals ret :: tables_1)).before args0 about1 = true := by
  rw [allAtoms_all]
  show words1.all (fun c => c.before args0 about1) = true
  refine all_split ?_ w_codes
  rw [w_t1]
set_option maxRecDepth 65536 in
theorem w_case : (Jvm.Cond.and given_1 narrow_1).before args0 about1 = true := by decide +kernel
theorem w_applies : (headSpec (Jvm.Cond.code x code maxLocals ret :: tables_1) room_1).applies x e0.platform about1 = true :=
  (Spec.applies_iff w_frames).mpr ⟨w_running, w_runnable, w_alone, w_named, w_hears, w_ripe, w_room, w_tables⟩
theorem atStart : AtStart classFile x code maxLocals ret World_1 tables_1 room_1 Calls_1 rest_1 Pre_1 launch0 p0 e0 about1 theMethod args0 below0 :=
  ⟨lists_1, trivial, launch0.admits_env _ _ _, launch0.least_env, fairChoices_fair.cas, fairChoices_fair.clock, w_frames, w_args, w_heap, w_applies, trivial, trivial, w_case⟩
end start1
theorem witness_1 : WitnessClaimed_1 := ⟨start1.p0, start1.e0, start1.about1, start1.theMethod, start1.args0, start1.below0, start1.atStart⟩
end Jvm.Pilot.@@N@@
