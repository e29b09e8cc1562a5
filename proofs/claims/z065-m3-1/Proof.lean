import JvmDerived
import JvmDerived.Pilot.@@N@@Statement
import JvmDerived.Pilot.@@N@@Code
set_option linter.unusedVariables false
set_option linter.unusedSimpArgs false
namespace Jvm.RoadKit
open Sem ClassFile Op Lib Jvm.Stand Jvm.Free Jvm.LawKit
section New
variable {p : Program} {l : Launch} {e : Env} {R : Room} {s : State} {m : MethodId} {args : Array Value} {below : List Frame} {meth : Method} {c : Code} {T : State} {locs : List Loc} {cells slots : Nat}
theorem retI (X : Stand p l e R s m args below meth c T locs cells slots) (hx : p.tables.exec = Jvm.exec) {pc : Nat} {Ls : Array Slot} {z : Int32} {rest : List Value} (hret : meth.sig.returnType = some .int) (hd : decode c.code pc = .ok (.ireturn, 1)) {fs : List Frame}
    (hl : ∀ (f : JFrame) (acts : List Action), f.method = m → f.locked = none → f.entered = [] → (doReturn e (T.setTop f) acts (some (.int z))).1 = T.setFrames fs) : Steps p.tables e below (T.setTop (mkF m pc Ls (.int z :: rest))) (T.setFrames fs) := by
  have hm' : T.vm.method? m = some meth := X.method'
  have hn : narrow .int (.int z) = .int z := rfl
  show Steps p.tables e below (T.setTop { method := m, pc := pc, locals := Ls, stack := _ :: rest, locked := none }) _
  jvm_step X.here [X.here.top, hx, hd, hm', hret, hn]
  first | (intro acts; rw [hl _ acts rfl rfl rfl]) | rw [hl _ _ rfl rfl rfl]
  exact Steps.refl _
end New
end Jvm.RoadKit
namespace Jvm.Pilot.@@N@@
open Jvm Jvm.ClassFile Sem Op Lib Jvm.Free Jvm.Stand Jvm.LawKit Jvm.RoadKit Bundle Jvm.Pilot.@@N@@.Jvm.D
theorem pd_0 : parseMethodDescriptor "([II)V" = some ⟨[(.array .int), .int], none⟩ := by decide +kernel
theorem pd_1 : parseMethodDescriptor "(I)Z" = some ⟨[.int], some .boolean⟩ := by decide +kernel
theorem pd_2 : parseMethodDescriptor "(I)V" = some ⟨[.int], none⟩ := by decide +kernel
theorem pd_3 : parseMethodDescriptor "(IZ)V" = some ⟨[.int, .boolean], none⟩ := by decide +kernel
theorem pd_4 : parseMethodDescriptor "(II)I" = some ⟨[.int, .int], some .int⟩ := by decide +kernel
theorem d1_0 : decode prog_39_method_1_code 0 = .ok (.aload_n 0, 1) := by decide +kernel
theorem d1_1 : decode prog_39_method_1_code 1 = .ok (.invokespecial 1, 3) := by decide +kernel
theorem d1_4 : decode prog_39_method_1_code 4 = .ok (.aload_n 0, 1) := by decide +kernel
theorem d1_5 : decode prog_39_method_1_code 5 = .ok (.iload_n 1, 1) := by decide +kernel
theorem d1_6 : decode prog_39_method_1_code 6 = .ok (.newarray .int, 2) := by decide +kernel
theorem d1_8 : decode prog_39_method_1_code 8 = .ok (.putfield 7, 3) := by decide +kernel
theorem d1_11 : decode prog_39_method_1_code 11 = .ok (.aload_n 0, 1) := by decide +kernel
theorem d1_12 : decode prog_39_method_1_code 12 = .ok (.iload_n 1, 1) := by decide +kernel
theorem d1_13 : decode prog_39_method_1_code 13 = .ok (.newarray .int, 2) := by decide +kernel
theorem d1_15 : decode prog_39_method_1_code 15 = .ok (.putfield 13, 3) := by decide +kernel
theorem d1_18 : decode prog_39_method_1_code 18 = .ok (.aload_n 0, 1) := by decide +kernel
theorem d1_19 : decode prog_39_method_1_code 19 = .ok (.getfield 13, 3) := by decide +kernel
theorem d1_22 : decode prog_39_method_1_code 22 = .ok (.iconst (-1), 1) := by decide +kernel
theorem d1_23 : decode prog_39_method_1_code 23 = .ok (.invokestatic 16, 3) := by decide +kernel
theorem d1_26 : decode prog_39_method_1_code 26 = .ok (.return_, 1) := by decide +kernel
theorem d3_0 : decode jdk_65_method_103_code 0 = .ok (.iconst 0, 1) := by decide +kernel
theorem d3_1 : decode jdk_65_method_103_code 1 = .ok (.istore_n 2, 1) := by decide +kernel
theorem d3_2 : decode jdk_65_method_103_code 2 = .ok (.aload_n 0, 1) := by decide +kernel
theorem d3_3 : decode jdk_65_method_103_code 3 = .ok (.arraylength, 1) := by decide +kernel
theorem d3_4 : decode jdk_65_method_103_code 4 = .ok (.istore_n 3, 1) := by decide +kernel
theorem d3_5 : decode jdk_65_method_103_code 5 = .ok (.iload_n 2, 1) := by decide +kernel
theorem d3_6 : decode jdk_65_method_103_code 6 = .ok (.iload_n 3, 1) := by decide +kernel
theorem d3_7 : decode jdk_65_method_103_code 7 = .ok (.if_icmp .ge 13, 3) := by decide +kernel
theorem d3_10 : decode jdk_65_method_103_code 10 = .ok (.aload_n 0, 1) := by decide +kernel
theorem d3_11 : decode jdk_65_method_103_code 11 = .ok (.iload_n 2, 1) := by decide +kernel
theorem d3_12 : decode jdk_65_method_103_code 12 = .ok (.iload_n 1, 1) := by decide +kernel
theorem d3_13 : decode jdk_65_method_103_code 13 = .ok (.iastore, 1) := by decide +kernel
theorem d3_14 : decode jdk_65_method_103_code 14 = .ok (.iinc 2 1, 3) := by decide +kernel
theorem d3_17 : decode jdk_65_method_103_code 17 = .ok (.goto (-12), 3) := by decide +kernel
theorem d3_20 : decode jdk_65_method_103_code 20 = .ok (.return_, 1) := by decide +kernel
theorem d4_0 : decode prog_39_method_5_code 0 = .ok (.iload_n 2, 1) := by decide +kernel
theorem d4_1 : decode prog_39_method_5_code 1 = .ok (.ifCond .eq 41, 3) := by decide +kernel
theorem d4_4 : decode prog_39_method_5_code 4 = .ok (.aload_n 0, 1) := by decide +kernel
theorem d4_5 : decode prog_39_method_5_code 5 = .ok (.iload_n 1, 1) := by decide +kernel
theorem d4_6 : decode prog_39_method_5_code 6 = .ok (.invokevirtual 43, 3) := by decide +kernel
theorem d4_9 : decode prog_39_method_5_code 9 = .ok (.ifCond .ne 33, 3) := by decide +kernel
theorem d4_12 : decode prog_39_method_5_code 12 = .ok (.aload_n 0, 1) := by decide +kernel
theorem d4_13 : decode prog_39_method_5_code 13 = .ok (.getfield 13, 3) := by decide +kernel
theorem d4_16 : decode prog_39_method_5_code 16 = .ok (.iload_n 1, 1) := by decide +kernel
theorem d4_17 : decode prog_39_method_5_code 17 = .ok (.aload_n 0, 1) := by decide +kernel
theorem d4_18 : decode prog_39_method_5_code 18 = .ok (.getfield 22, 3) := by decide +kernel
theorem d4_21 : decode prog_39_method_5_code 21 = .ok (.iastore, 1) := by decide +kernel
theorem d4_22 : decode prog_39_method_5_code 22 = .ok (.aload_n 0, 1) := by decide +kernel
theorem d4_23 : decode prog_39_method_5_code 23 = .ok (.getfield 7, 3) := by decide +kernel
theorem d4_26 : decode prog_39_method_5_code 26 = .ok (.aload_n 0, 1) := by decide +kernel
theorem d4_27 : decode prog_39_method_5_code 27 = .ok (.dup, 1) := by decide +kernel
theorem d4_28 : decode prog_39_method_5_code 28 = .ok (.getfield 22, 3) := by decide +kernel
theorem d4_31 : decode prog_39_method_5_code 31 = .ok (.dup_x1, 1) := by decide +kernel
theorem d4_32 : decode prog_39_method_5_code 32 = .ok (.iconst 1, 1) := by decide +kernel
theorem d4_33 : decode prog_39_method_5_code 33 = .ok (.iadd, 1) := by decide +kernel
theorem d4_34 : decode prog_39_method_5_code 34 = .ok (.putfield 22, 3) := by decide +kernel
theorem d4_37 : decode prog_39_method_5_code 37 = .ok (.iload_n 1, 1) := by decide +kernel
theorem d4_38 : decode prog_39_method_5_code 38 = .ok (.iastore, 1) := by decide +kernel
theorem d4_39 : decode prog_39_method_5_code 39 = .ok (.goto 63, 3) := by decide +kernel
theorem d4_42 : decode prog_39_method_5_code 42 = .ok (.iload_n 2, 1) := by decide +kernel
theorem d4_43 : decode prog_39_method_5_code 43 = .ok (.ifCond .ne 59, 3) := by decide +kernel
theorem d4_46 : decode prog_39_method_5_code 46 = .ok (.aload_n 0, 1) := by decide +kernel
theorem d4_47 : decode prog_39_method_5_code 47 = .ok (.iload_n 1, 1) := by decide +kernel
theorem d4_48 : decode prog_39_method_5_code 48 = .ok (.invokevirtual 43, 3) := by decide +kernel
theorem d4_51 : decode prog_39_method_5_code 51 = .ok (.ifCond .eq 51, 3) := by decide +kernel
theorem d4_54 : decode prog_39_method_5_code 54 = .ok (.aload_n 0, 1) := by decide +kernel
theorem d4_55 : decode prog_39_method_5_code 55 = .ok (.getfield 7, 3) := by decide +kernel
theorem d4_58 : decode prog_39_method_5_code 58 = .ok (.aload_n 0, 1) := by decide +kernel
theorem d4_59 : decode prog_39_method_5_code 59 = .ok (.dup, 1) := by decide +kernel
theorem d4_60 : decode prog_39_method_5_code 60 = .ok (.getfield 22, 3) := by decide +kernel
theorem d4_63 : decode prog_39_method_5_code 63 = .ok (.iconst 1, 1) := by decide +kernel
theorem d4_64 : decode prog_39_method_5_code 64 = .ok (.isub, 1) := by decide +kernel
theorem d4_65 : decode prog_39_method_5_code 65 = .ok (.dup_x1, 1) := by decide +kernel
theorem d4_66 : decode prog_39_method_5_code 66 = .ok (.putfield 22, 3) := by decide +kernel
theorem d4_69 : decode prog_39_method_5_code 69 = .ok (.iaload, 1) := by decide +kernel
theorem d4_70 : decode prog_39_method_5_code 70 = .ok (.istore_n 3, 1) := by decide +kernel
theorem d4_71 : decode prog_39_method_5_code 71 = .ok (.aload_n 0, 1) := by decide +kernel
theorem d4_72 : decode prog_39_method_5_code 72 = .ok (.getfield 7, 3) := by decide +kernel
theorem d4_75 : decode prog_39_method_5_code 75 = .ok (.aload_n 0, 1) := by decide +kernel
theorem d4_76 : decode prog_39_method_5_code 76 = .ok (.getfield 13, 3) := by decide +kernel
theorem d4_79 : decode prog_39_method_5_code 79 = .ok (.iload_n 1, 1) := by decide +kernel
theorem d4_80 : decode prog_39_method_5_code 80 = .ok (.iaload, 1) := by decide +kernel
theorem d4_81 : decode prog_39_method_5_code 81 = .ok (.iload_n 3, 1) := by decide +kernel
theorem d4_82 : decode prog_39_method_5_code 82 = .ok (.iastore, 1) := by decide +kernel
theorem d4_83 : decode prog_39_method_5_code 83 = .ok (.aload_n 0, 1) := by decide +kernel
theorem d4_84 : decode prog_39_method_5_code 84 = .ok (.getfield 13, 3) := by decide +kernel
theorem d4_87 : decode prog_39_method_5_code 87 = .ok (.iload_n 3, 1) := by decide +kernel
theorem d4_88 : decode prog_39_method_5_code 88 = .ok (.aload_n 0, 1) := by decide +kernel
theorem d4_89 : decode prog_39_method_5_code 89 = .ok (.getfield 13, 3) := by decide +kernel
theorem d4_92 : decode prog_39_method_5_code 92 = .ok (.iload_n 1, 1) := by decide +kernel
theorem d4_93 : decode prog_39_method_5_code 93 = .ok (.iaload, 1) := by decide +kernel
theorem d4_94 : decode prog_39_method_5_code 94 = .ok (.iastore, 1) := by decide +kernel
theorem d4_95 : decode prog_39_method_5_code 95 = .ok (.aload_n 0, 1) := by decide +kernel
theorem d4_96 : decode prog_39_method_5_code 96 = .ok (.getfield 13, 3) := by decide +kernel
theorem d4_99 : decode prog_39_method_5_code 99 = .ok (.iload_n 1, 1) := by decide +kernel
theorem d4_100 : decode prog_39_method_5_code 100 = .ok (.iconst (-1), 1) := by decide +kernel
theorem d4_101 : decode prog_39_method_5_code 101 = .ok (.iastore, 1) := by decide +kernel
theorem d4_102 : decode prog_39_method_5_code 102 = .ok (.return_, 1) := by decide +kernel
theorem d5_0 : decode prog_39_method_6_code 0 = .ok (.aload_n 0, 1) := by decide +kernel
theorem d5_1 : decode prog_39_method_6_code 1 = .ok (.getfield 13, 3) := by decide +kernel
theorem d5_4 : decode prog_39_method_6_code 4 = .ok (.iload_n 1, 1) := by decide +kernel
theorem d5_5 : decode prog_39_method_6_code 5 = .ok (.iaload, 1) := by decide +kernel
theorem d5_6 : decode prog_39_method_6_code 6 = .ok (.ifCond .lt 7, 3) := by decide +kernel
theorem d5_9 : decode prog_39_method_6_code 9 = .ok (.iconst 1, 1) := by decide +kernel
theorem d5_10 : decode prog_39_method_6_code 10 = .ok (.goto 4, 3) := by decide +kernel
theorem d5_13 : decode prog_39_method_6_code 13 = .ok (.iconst 0, 1) := by decide +kernel
theorem d5_14 : decode prog_39_method_6_code 14 = .ok (.ireturn, 1) := by decide +kernel
theorem d6_0 : decode method_3_code 0 = .ok (.iconst 1, 1) := by decide +kernel
theorem d6_1 : decode method_3_code 1 = .ok (.iload_n 1, 1) := by decide +kernel
theorem d6_2 : decode method_3_code 2 = .ok (.iconst 3, 1) := by decide +kernel
theorem d6_3 : decode method_3_code 3 = .ok (.iand, 1) := by decide +kernel
theorem d6_4 : decode method_3_code 4 = .ok (.ishl, 1) := by decide +kernel
theorem d6_5 : decode method_3_code 5 = .ok (.istore_n 2, 1) := by decide +kernel
theorem d6_6 : decode method_3_code 6 = .ok (.iload_n 1, 1) := by decide +kernel
theorem d6_7 : decode method_3_code 7 = .ok (.iconst 4, 1) := by decide +kernel
theorem d6_8 : decode method_3_code 8 = .ok (.iand, 1) := by decide +kernel
theorem d6_9 : decode method_3_code 9 = .ok (.ifCond .eq 7, 3) := by decide +kernel
theorem d6_12 : decode method_3_code 12 = .ok (.iload_n 0, 1) := by decide +kernel
theorem d6_13 : decode method_3_code 13 = .ok (.iload_n 2, 1) := by decide +kernel
theorem d6_14 : decode method_3_code 14 = .ok (.ior, 1) := by decide +kernel
theorem d6_15 : decode method_3_code 15 = .ok (.ireturn, 1) := by decide +kernel
theorem d6_16 : decode method_3_code 16 = .ok (.iload_n 0, 1) := by decide +kernel
theorem d6_17 : decode method_3_code 17 = .ok (.iload_n 2, 1) := by decide +kernel
theorem d6_18 : decode method_3_code 18 = .ok (.iconst (-1), 1) := by decide +kernel
theorem d6_19 : decode method_3_code 19 = .ok (.ixor, 1) := by decide +kernel
theorem d6_20 : decode method_3_code 20 = .ok (.iand, 1) := by decide +kernel
theorem d6_21 : decode method_3_code 21 = .ok (.ireturn, 1) := by decide +kernel
def Ia (Z : State) (h : Heap) (b : Addr) (xs : List Int32) : Prop := ∃ c : Cell, Arr Z h b c .int ∧ c.slots.toList = xs.map Value.int
theorem Ia.ext {Z : State} {h h' : Heap} {b : Addr} {xs : List Int32} (A : Ia Z h b xs) (E : Ext h h') : Ia Z h' b xs := by
  obtain ⟨c, A, l⟩ := A; exact ⟨c, A.ext E, l⟩
theorem Ia.other {Z : State} {h h' : Heap} {a b : Addr} {sl : Nat} {v : Value} {xs : List Int32} (A : Ia Z h b xs) (W : Wr h h' a sl v) (ne : b ≠ a) : Ia Z h' b xs := by
  obtain ⟨c, A, l⟩ := A; exact ⟨c, A.other W ne, l⟩
theorem Ia.set {Z : State} {h h' : Heap} {b : Addr} {j : Nat} {x : Int32} {xs : List Int32} (A : Ia Z h b xs) (W : Wr h h' b j (.int x)) : Ia Z h' b (xs.set j x) := by
  obtain ⟨c, A, l⟩ := A; exact ⟨_, A.same W, list_set l j x⟩
theorem Ia.lt {Z : State} {h : Heap} {b : Addr} {xs : List Int32} (A : Ia Z h b xs) : b < h.size := by
  obtain ⟨c, A, l⟩ := A; exact A.lt
def inR (j : Int32) : Prop := ¬ j < 0 ∧ j.toNatClampNeg < 4
instance (j : Int32) : Decidable (inR j) := inferInstanceAs (Decidable (_ ∧ _))
theorem inR.inb {c : Cell} {xs : List Int32} {j : Int32} (l : c.slots.toList = xs.map Value.int) (h4 : xs.length = 4) (q : inR j) : ¬ (j < 0 ∨ c.slots.size ≤ j.toNatClampNeg) := by
  rw [size_of_list l, h4]; exact fun h => h.elim q.1 (Nat.not_le.mpr q.2)
theorem inR.at {c : Cell} {xs : List Int32} {j : Int32} (l : c.slots.toList = xs.map Value.int) (h4 : xs.length = 4) (q : inR j) : c.slots[j.toNatClampNeg]? = some (.int (xs.getD j.toNatClampNeg 0)) :=
  slot_of_list l (by rw [h4]; exact q.2)
def Ob (Z : State) (h : Heap) (a bm bp : Addr) (pos mem : List Int32) (sz : Int32) : Prop := Exa Z h a "com/example/omphalos/omphalos/selfstab/EnabledNodes" ∧ Fld Z h a "com/example/omphalos/omphalos/selfstab/EnabledNodes" "members" "[I" (.ref bm) ∧ Fld Z h a "com/example/omphalos/omphalos/selfstab/EnabledNodes" "position" "[I" (.ref bp) ∧ Fld Z h a "com/example/omphalos/omphalos/selfstab/EnabledNodes" "size" "I" (.int sz) ∧ Ia Z h bm mem ∧ Ia Z h bp pos ∧ a ≠ bm ∧ a ≠ bp ∧ bm ≠ bp
section ob
variable {Z : State} {h h' : Heap} {a bm bp : Addr} {pos mem : List Int32} {sz x : Int32} {j : Nat}
theorem Ob.wp (O : Ob Z h a bm bp pos mem sz) (W : Wr h h' bp j (.int x)) : Ob Z h' a bm bp (pos.set j x) mem sz := by
  obtain ⟨E, Fm, Fp, Fz, Im, Ip, n1, n2, n3⟩ := O
  exact ⟨E.wr W, Fm.other W (Or.inl n2), Fp.other W (Or.inl n2), Fz.other W (Or.inl n2), Im.other W n3, Ip.set W, n1, n2, n3⟩
theorem Ob.wm (O : Ob Z h a bm bp pos mem sz) (W : Wr h h' bm j (.int x)) : Ob Z h' a bm bp pos (mem.set j x) sz := by
  obtain ⟨E, Fm, Fp, Fz, Im, Ip, n1, n2, n3⟩ := O
  exact ⟨E.wr W, Fm.other W (Or.inl n1), Fp.other W (Or.inl n1), Fz.other W (Or.inl n1), Im.set W, Ip.other W (Ne.symm n3), n1, n2, n3⟩
theorem Ob.ws {a0 : Array Value} (O : Ob Z h a bm bp pos mem sz) (hw : ∀ d ∈ tables_1, d.before a0 Z = true) (W : Wr h h' a (Jvm.RoadKit.slotOf Z "com/example/omphalos/omphalos/selfstab/EnabledNodes" "size" "I") (.int x)) : Ob Z h' a bm bp pos mem x := by
  obtain ⟨E, Fm, Fp, Fz, Im, Ip, n1, n2, n3⟩ := O
  have Lm : Laid Z a0 "com/example/omphalos/omphalos/selfstab/EnabledNodes" "com/example/omphalos/omphalos/selfstab/EnabledNodes" "members" "[I" := Or.inr (hw _ (List.mem_of_getElem? (i := 11) rfl))
  have Lp : Laid Z a0 "com/example/omphalos/omphalos/selfstab/EnabledNodes" "com/example/omphalos/omphalos/selfstab/EnabledNodes" "position" "[I" := Or.inr (hw _ (List.mem_of_getElem? (i := 13) rfl))
  have Lz : Laid Z a0 "com/example/omphalos/omphalos/selfstab/EnabledNodes" "com/example/omphalos/omphalos/selfstab/EnabledNodes" "size" "I" := Or.inl (hw _ (List.mem_of_getElem? (i := 34) rfl))
  exact ⟨E.wr W, Fm.other W (Or.inr (slot_ne Lm Lz (by decide) (t := (.array .int)) (t' := .int) (by decide) (by decide))), Fp.other W (Or.inr (slot_ne Lp Lz (by decide) (t := (.array .int)) (t' := .int) (by decide) (by decide))), Fz.same W, Im.other W (Ne.symm n1), Ip.other W (Ne.symm n2), n1, n2, n3⟩
end ob
def fill4 (xs : List Int32) (x : Int32) : List Int32 := (((xs.set 0 x).set 1 x).set 2 x).set 3 x
def Qf (Z : State) (a1 : Addr) (p2 : Int32) (xs : List Int32) (h0 : Heap) (n0 : Nat) (v : Option Value) (h : Heap) (L : List Loc) : Prop := v = none ∧ Fr n0 L ∧ Keep h0 h [a1] ∧ Ia Z h a1 (fill4 xs p2)
theorem pn_3 : plainName "java/util/Arrays" = true := by first | (simp [plainName, overriddenIn]; done) | decide +kernel
theorem ef_3 (m : MethodId) (a1 : Addr) (p2 : Int32) : entryFrame m #[(.ref a1), (.int p2)] 4 = mkF m 0 #[.val (.ref a1), .val (.int p2), .unset, .unset] [] := by first | (simp [entryFrame, mkF, argsToLocals, Value.category]; done) | rfl
set_option maxRecDepth 65536 in
set_option maxHeartbeats 40000000 in
theorem rmf (l : Launch) (Z : State) (a0 : Array Value) (hw : ∀ d ∈ tables_1, d.before a0 Z = true) (ws : List Jvm.Cond) (a1 : Addr) (p2 : Int32) (xs : List Int32) (h0 : Heap) (n0 : Nat) (Z0 : n0 ≤ h0.size) (I0 : Ia Z h0 a1 xs) (hln : xs.length = 4) (g1 : n0 ≤ a1) :
    MetFree l (⟨"java/util/Arrays", "fill", "([II)V"⟩ : MethodName) (head1 (Jvm.Cond.code (⟨"java/util/Arrays", "fill", "([II)V"⟩ : MethodName) jdk_65_method_103_code 4 none :: ws) ({ frames := 0, cells := 0, slots := 0, locals := 0 } : Room)) (fun a U => a = #[(.ref a1), (.int p2)] ∧ Z.Warmed39 U.vm ∧ U.heap = h0) (fun _ _ _ _ _ => True) (fun _ U o U' => ∃ v L, o = .returned v ∧ Qf Z a1 p2 xs h0 n0 v U'.heap L ∧ FrameEnd U o U' L ({ frames := 0, cells := 0, slots := 0, locals := 0 } : Room).cells ({ frames := 0, cells := 0, slots := 0, locals := 0 } : Room).slots) := by
  refine MetFree.of_bodySF (plainFor_of_name pn_3) hisR ?_
  intro p e s m args below meth c s₁ Bd hml0 hP hK
  obtain ⟨rfl, hZ, hh⟩ := hP
  have hx := Bd.exec
  have hby := Bd.bytes
  have hml : c.maxLocals = 4 := hml0
  have hown : s.vm.findClass "java/util/Arrays" = some m.cls := findClass_of_methodNamed Bd.named
  have hnm := (name_of_methodNamed Bd.named Bd.method).1
  have X0 : Stand p l e ({ frames := 0, cells := 0, slots := 0, locals := 0 } : Room) s m #[(.ref a1), (.int p2)] below meth c s₁ [] 0 0 := Stand.of_body Bd
  have e0 : s₁.heap = h0 := by rw [← hh, Bd.state]; rfl
  have N0 := Fr.nil n0
  have pre0 : Goes p e below s₁ (entryFrame m #[(.ref a1), (.int p2)] 4) s₁ (mkF m 0 #[.val (.ref a1), .val (.int p2), .unset, .unset] []) := fun t k => castTop (ef_3 m a1 p2) k
  obtain ⟨c0, A0, l0⟩ := I0
  have I0 : Ia Z h0 a1 xs := ⟨c0, A0, l0⟩
  have K0 := Keep.refl h0 [a1]
  have pre1 : Goes p e below s₁ (entryFrame m #[(.ref a1), (.int p2)] 4) s₁ (mkF m 13 #[.val (.ref a1), .val (.int p2), .val (.int (0 : Int32)), .val (.int (4 : Int32))] [(.int p2), (.int (0 : Int32)), (.ref a1)]) := fun t k => pre0 t (by
      refine XS.iconst X0.here hx rfl (hb hby d3_0) ?_
      show Steps p.tables e below (s₁.setTop (mkF m 1 #[.val (.ref a1), .val (.int p2), .unset, .unset] [(.int (0 : Int32))])) _
      refine XS.istoreN X0.here hx rfl (hb hby d3_1) rfl (l' := #[.val (.ref a1), .val (.int p2), .val (.int (0 : Int32)), .unset]) rfl ?_
      show Steps p.tables e below (s₁.setTop (mkF m 2 #[.val (.ref a1), .val (.int p2), .val (.int (0 : Int32)), .unset] [])) _
      refine XS.aloadN X0.here hx rfl (hb hby d3_2) rfl rfl ?_
      show Steps p.tables e below (s₁.setTop (mkF m 3 #[.val (.ref a1), .val (.int p2), .val (.int (0 : Int32)), .unset] [(.ref a1)])) _
      refine X0.arraylength hx (by rw [e0]; exact A0.1) (State.isArrayOf_alike hZ.alike A0.2.1) (g := (mkF m 3 #[.val (.ref a1), .val (.int p2), .val (.int (0 : Int32)), .unset] [(.ref a1)])) rfl rfl (hb hby d3_3) _ ?_
      rw [(show c0.slots.size.toInt32 = (4 : Int32) by rw [size_of_list l0, hln]; rfl)]
      show Steps p.tables e below (s₁.setTop (mkF m 4 #[.val (.ref a1), .val (.int p2), .val (.int (0 : Int32)), .unset] [(.int (4 : Int32))])) _
      refine XS.istoreN X0.here hx rfl (hb hby d3_4) rfl (l' := #[.val (.ref a1), .val (.int p2), .val (.int (0 : Int32)), .val (.int (4 : Int32))]) rfl ?_
      show Steps p.tables e below (s₁.setTop (mkF m 5 #[.val (.ref a1), .val (.int p2), .val (.int (0 : Int32)), .val (.int (4 : Int32))] [])) _
      refine XS.iloadN X0.here hx rfl (hb hby d3_5) rfl ?_
      show Steps p.tables e below (s₁.setTop (mkF m 6 #[.val (.ref a1), .val (.int p2), .val (.int (0 : Int32)), .val (.int (4 : Int32))] [(.int (0 : Int32))])) _
      refine XS.iloadN X0.here hx rfl (hb hby d3_6) rfl ?_
      show Steps p.tables e below (s₁.setTop (mkF m 7 #[.val (.ref a1), .val (.int p2), .val (.int (0 : Int32)), .val (.int (4 : Int32))] [(.int (4 : Int32)), (.int (0 : Int32))])) _
      refine XS.icmpNo X0.here hx rfl (hb hby d3_7) rfl (tlt (show (0 : Int32) < (4 : Int32) from (by decide : (0 : Int32) < (4 : Int32)))).2.1 ?_
      show Steps p.tables e below (s₁.setTop (mkF m 10 #[.val (.ref a1), .val (.int p2), .val (.int (0 : Int32)), .val (.int (4 : Int32))] [])) _
      refine XS.aloadN X0.here hx rfl (hb hby d3_10) rfl rfl ?_
      show Steps p.tables e below (s₁.setTop (mkF m 11 #[.val (.ref a1), .val (.int p2), .val (.int (0 : Int32)), .val (.int (4 : Int32))] [(.ref a1)])) _
      refine XS.iloadN X0.here hx rfl (hb hby d3_11) rfl ?_
      show Steps p.tables e below (s₁.setTop (mkF m 12 #[.val (.ref a1), .val (.int p2), .val (.int (0 : Int32)), .val (.int (4 : Int32))] [(.int (0 : Int32)), (.ref a1)])) _
      refine XS.iloadN X0.here hx rfl (hb hby d3_12) rfl ?_
      show Steps p.tables e below (s₁.setTop (mkF m 13 #[.val (.ref a1), .val (.int p2), .val (.int (0 : Int32)), .val (.int (4 : Int32))] [(.int p2), (.int (0 : Int32)), (.ref a1)])) _
      exact k)
  obtain ⟨T2, h2, X2, e2, W2, st2⟩ := stI X0 hx hZ e0 A0 (j := (0 : Int32)) (inR.inb l0 (by simp [hln]) (by decide)) (g := (mkF m 13 #[.val (.ref a1), .val (.int p2), .val (.int (0 : Int32)), .val (.int (4 : Int32))] [(.int p2), (.int (0 : Int32)), (.ref a1)])) rfl rfl (hb hby d3_13)
  have N2 := Fr.snoc X2 N0 g1
  have pre2 : Goes p e below s₁ (entryFrame m #[(.ref a1), (.int p2)] 4) T2 (mkF m 14 #[.val (.ref a1), .val (.int p2), .val (.int (0 : Int32)), .val (.int (4 : Int32))] []) := fun t k => pre1 t (st2 _ k)
  have I1 := Ia.set ⟨c0, A0, l0⟩ W2
  have K1 := K0.wr W2 (Or.inl (List.mem_of_getElem? (i := 0) rfl))
  obtain ⟨c1, A1, l1⟩ := I1
  have pre3 : Goes p e below s₁ (entryFrame m #[(.ref a1), (.int p2)] 4) T2 (mkF m 13 #[.val (.ref a1), .val (.int p2), .val (.int (1 : Int32)), .val (.int (4 : Int32))] [(.int p2), (.int (1 : Int32)), (.ref a1)]) := fun t k => pre2 t (by
      refine XS.iinc X2.here hx rfl (hb hby d3_14) rfl (l' := #[.val (.ref a1), .val (.int p2), .val (.int (1 : Int32)), .val (.int (4 : Int32))]) rfl ?_
      show Steps p.tables e below (T2.setTop (mkF m 17 #[.val (.ref a1), .val (.int p2), .val (.int (1 : Int32)), .val (.int (4 : Int32))] [])) _
      refine XS.goto X2.here hx rfl (pc0 := 17) (pc' := 5) rfl (hb hby d3_17) (by decide) (by decide) ?_
      show Steps p.tables e below (T2.setTop (mkF m 5 #[.val (.ref a1), .val (.int p2), .val (.int (1 : Int32)), .val (.int (4 : Int32))] [])) _
      refine XS.iloadN X2.here hx rfl (hb hby d3_5) rfl ?_
      show Steps p.tables e below (T2.setTop (mkF m 6 #[.val (.ref a1), .val (.int p2), .val (.int (1 : Int32)), .val (.int (4 : Int32))] [(.int (1 : Int32))])) _
      refine XS.iloadN X2.here hx rfl (hb hby d3_6) rfl ?_
      show Steps p.tables e below (T2.setTop (mkF m 7 #[.val (.ref a1), .val (.int p2), .val (.int (1 : Int32)), .val (.int (4 : Int32))] [(.int (4 : Int32)), (.int (1 : Int32))])) _
      refine XS.icmpNo X2.here hx rfl (hb hby d3_7) rfl (tlt (show (1 : Int32) < (4 : Int32) from (by decide : (1 : Int32) < (4 : Int32)))).2.1 ?_
      show Steps p.tables e below (T2.setTop (mkF m 10 #[.val (.ref a1), .val (.int p2), .val (.int (1 : Int32)), .val (.int (4 : Int32))] [])) _
      refine XS.aloadN X2.here hx rfl (hb hby d3_10) rfl rfl ?_
      show Steps p.tables e below (T2.setTop (mkF m 11 #[.val (.ref a1), .val (.int p2), .val (.int (1 : Int32)), .val (.int (4 : Int32))] [(.ref a1)])) _
      refine XS.iloadN X2.here hx rfl (hb hby d3_11) rfl ?_
      show Steps p.tables e below (T2.setTop (mkF m 12 #[.val (.ref a1), .val (.int p2), .val (.int (1 : Int32)), .val (.int (4 : Int32))] [(.int (1 : Int32)), (.ref a1)])) _
      refine XS.iloadN X2.here hx rfl (hb hby d3_12) rfl ?_
      show Steps p.tables e below (T2.setTop (mkF m 13 #[.val (.ref a1), .val (.int p2), .val (.int (1 : Int32)), .val (.int (4 : Int32))] [(.int p2), (.int (1 : Int32)), (.ref a1)])) _
      exact k)
  obtain ⟨T4, h4, X4, e4, W4, st4⟩ := stI X2 hx hZ e2 A1 (j := (1 : Int32)) (inR.inb l1 (by simp [hln]) (by decide)) (g := (mkF m 13 #[.val (.ref a1), .val (.int p2), .val (.int (1 : Int32)), .val (.int (4 : Int32))] [(.int p2), (.int (1 : Int32)), (.ref a1)])) rfl rfl (hb hby d3_13)
  have N4 := Fr.snoc X4 N2 g1
  have pre4 : Goes p e below s₁ (entryFrame m #[(.ref a1), (.int p2)] 4) T4 (mkF m 14 #[.val (.ref a1), .val (.int p2), .val (.int (1 : Int32)), .val (.int (4 : Int32))] []) := fun t k => pre3 t (st4 _ k)
  have I2 := Ia.set ⟨c1, A1, l1⟩ W4
  have K2 := K1.wr W4 (Or.inl (List.mem_of_getElem? (i := 0) rfl))
  obtain ⟨c2, A2, l2⟩ := I2
  have pre5 : Goes p e below s₁ (entryFrame m #[(.ref a1), (.int p2)] 4) T4 (mkF m 13 #[.val (.ref a1), .val (.int p2), .val (.int (2 : Int32)), .val (.int (4 : Int32))] [(.int p2), (.int (2 : Int32)), (.ref a1)]) := fun t k => pre4 t (by
      refine XS.iinc X4.here hx rfl (hb hby d3_14) rfl (l' := #[.val (.ref a1), .val (.int p2), .val (.int (2 : Int32)), .val (.int (4 : Int32))]) rfl ?_
      show Steps p.tables e below (T4.setTop (mkF m 17 #[.val (.ref a1), .val (.int p2), .val (.int (2 : Int32)), .val (.int (4 : Int32))] [])) _
      refine XS.goto X4.here hx rfl (pc0 := 17) (pc' := 5) rfl (hb hby d3_17) (by decide) (by decide) ?_
      show Steps p.tables e below (T4.setTop (mkF m 5 #[.val (.ref a1), .val (.int p2), .val (.int (2 : Int32)), .val (.int (4 : Int32))] [])) _
      refine XS.iloadN X4.here hx rfl (hb hby d3_5) rfl ?_
      show Steps p.tables e below (T4.setTop (mkF m 6 #[.val (.ref a1), .val (.int p2), .val (.int (2 : Int32)), .val (.int (4 : Int32))] [(.int (2 : Int32))])) _
      refine XS.iloadN X4.here hx rfl (hb hby d3_6) rfl ?_
      show Steps p.tables e below (T4.setTop (mkF m 7 #[.val (.ref a1), .val (.int p2), .val (.int (2 : Int32)), .val (.int (4 : Int32))] [(.int (4 : Int32)), (.int (2 : Int32))])) _
      refine XS.icmpNo X4.here hx rfl (hb hby d3_7) rfl (tlt (show (2 : Int32) < (4 : Int32) from (by decide : (2 : Int32) < (4 : Int32)))).2.1 ?_
      show Steps p.tables e below (T4.setTop (mkF m 10 #[.val (.ref a1), .val (.int p2), .val (.int (2 : Int32)), .val (.int (4 : Int32))] [])) _
      refine XS.aloadN X4.here hx rfl (hb hby d3_10) rfl rfl ?_
      show Steps p.tables e below (T4.setTop (mkF m 11 #[.val (.ref a1), .val (.int p2), .val (.int (2 : Int32)), .val (.int (4 : Int32))] [(.ref a1)])) _
      refine XS.iloadN X4.here hx rfl (hb hby d3_11) rfl ?_
      show Steps p.tables e below (T4.setTop (mkF m 12 #[.val (.ref a1), .val (.int p2), .val (.int (2 : Int32)), .val (.int (4 : Int32))] [(.int (2 : Int32)), (.ref a1)])) _
      refine XS.iloadN X4.here hx rfl (hb hby d3_12) rfl ?_
      show Steps p.tables e below (T4.setTop (mkF m 13 #[.val (.ref a1), .val (.int p2), .val (.int (2 : Int32)), .val (.int (4 : Int32))] [(.int p2), (.int (2 : Int32)), (.ref a1)])) _
      exact k)
  obtain ⟨T6, h6, X6, e6, W6, st6⟩ := stI X4 hx hZ e4 A2 (j := (2 : Int32)) (inR.inb l2 (by simp [hln]) (by decide)) (g := (mkF m 13 #[.val (.ref a1), .val (.int p2), .val (.int (2 : Int32)), .val (.int (4 : Int32))] [(.int p2), (.int (2 : Int32)), (.ref a1)])) rfl rfl (hb hby d3_13)
  have N6 := Fr.snoc X6 N4 g1
  have pre6 : Goes p e below s₁ (entryFrame m #[(.ref a1), (.int p2)] 4) T6 (mkF m 14 #[.val (.ref a1), .val (.int p2), .val (.int (2 : Int32)), .val (.int (4 : Int32))] []) := fun t k => pre5 t (st6 _ k)
  have I3 := Ia.set ⟨c2, A2, l2⟩ W6
  have K3 := K2.wr W6 (Or.inl (List.mem_of_getElem? (i := 0) rfl))
  obtain ⟨c3, A3, l3⟩ := I3
  have pre7 : Goes p e below s₁ (entryFrame m #[(.ref a1), (.int p2)] 4) T6 (mkF m 13 #[.val (.ref a1), .val (.int p2), .val (.int (3 : Int32)), .val (.int (4 : Int32))] [(.int p2), (.int (3 : Int32)), (.ref a1)]) := fun t k => pre6 t (by
      refine XS.iinc X6.here hx rfl (hb hby d3_14) rfl (l' := #[.val (.ref a1), .val (.int p2), .val (.int (3 : Int32)), .val (.int (4 : Int32))]) rfl ?_
      show Steps p.tables e below (T6.setTop (mkF m 17 #[.val (.ref a1), .val (.int p2), .val (.int (3 : Int32)), .val (.int (4 : Int32))] [])) _
      refine XS.goto X6.here hx rfl (pc0 := 17) (pc' := 5) rfl (hb hby d3_17) (by decide) (by decide) ?_
      show Steps p.tables e below (T6.setTop (mkF m 5 #[.val (.ref a1), .val (.int p2), .val (.int (3 : Int32)), .val (.int (4 : Int32))] [])) _
      refine XS.iloadN X6.here hx rfl (hb hby d3_5) rfl ?_
      show Steps p.tables e below (T6.setTop (mkF m 6 #[.val (.ref a1), .val (.int p2), .val (.int (3 : Int32)), .val (.int (4 : Int32))] [(.int (3 : Int32))])) _
      refine XS.iloadN X6.here hx rfl (hb hby d3_6) rfl ?_
      show Steps p.tables e below (T6.setTop (mkF m 7 #[.val (.ref a1), .val (.int p2), .val (.int (3 : Int32)), .val (.int (4 : Int32))] [(.int (4 : Int32)), (.int (3 : Int32))])) _
      refine XS.icmpNo X6.here hx rfl (hb hby d3_7) rfl (tlt (show (3 : Int32) < (4 : Int32) from (by decide : (3 : Int32) < (4 : Int32)))).2.1 ?_
      show Steps p.tables e below (T6.setTop (mkF m 10 #[.val (.ref a1), .val (.int p2), .val (.int (3 : Int32)), .val (.int (4 : Int32))] [])) _
      refine XS.aloadN X6.here hx rfl (hb hby d3_10) rfl rfl ?_
      show Steps p.tables e below (T6.setTop (mkF m 11 #[.val (.ref a1), .val (.int p2), .val (.int (3 : Int32)), .val (.int (4 : Int32))] [(.ref a1)])) _
      refine XS.iloadN X6.here hx rfl (hb hby d3_11) rfl ?_
      show Steps p.tables e below (T6.setTop (mkF m 12 #[.val (.ref a1), .val (.int p2), .val (.int (3 : Int32)), .val (.int (4 : Int32))] [(.int (3 : Int32)), (.ref a1)])) _
      refine XS.iloadN X6.here hx rfl (hb hby d3_12) rfl ?_
      show Steps p.tables e below (T6.setTop (mkF m 13 #[.val (.ref a1), .val (.int p2), .val (.int (3 : Int32)), .val (.int (4 : Int32))] [(.int p2), (.int (3 : Int32)), (.ref a1)])) _
      exact k)
  obtain ⟨T8, h8, X8, e8, W8, st8⟩ := stI X6 hx hZ e6 A3 (j := (3 : Int32)) (inR.inb l3 (by simp [hln]) (by decide)) (g := (mkF m 13 #[.val (.ref a1), .val (.int p2), .val (.int (3 : Int32)), .val (.int (4 : Int32))] [(.int p2), (.int (3 : Int32)), (.ref a1)])) rfl rfl (hb hby d3_13)
  have N8 := Fr.snoc X8 N6 g1
  have pre8 : Goes p e below s₁ (entryFrame m #[(.ref a1), (.int p2)] 4) T8 (mkF m 14 #[.val (.ref a1), .val (.int p2), .val (.int (3 : Int32)), .val (.int (4 : Int32))] []) := fun t k => pre7 t (st8 _ k)
  have I4 := Ia.set ⟨c3, A3, l3⟩ W8
  have K4 := K3.wr W8 (Or.inl (List.mem_of_getElem? (i := 0) rfl))
  have pre9 : Goes p e below s₁ (entryFrame m #[(.ref a1), (.int p2)] 4) T8 (mkF m 20 #[.val (.ref a1), .val (.int p2), .val (.int (4 : Int32)), .val (.int (4 : Int32))] []) := fun t k => pre8 t (by
      refine XS.iinc X8.here hx rfl (hb hby d3_14) rfl (l' := #[.val (.ref a1), .val (.int p2), .val (.int (4 : Int32)), .val (.int (4 : Int32))]) rfl ?_
      show Steps p.tables e below (T8.setTop (mkF m 17 #[.val (.ref a1), .val (.int p2), .val (.int (4 : Int32)), .val (.int (4 : Int32))] [])) _
      refine XS.goto X8.here hx rfl (pc0 := 17) (pc' := 5) rfl (hb hby d3_17) (by decide) (by decide) ?_
      show Steps p.tables e below (T8.setTop (mkF m 5 #[.val (.ref a1), .val (.int p2), .val (.int (4 : Int32)), .val (.int (4 : Int32))] [])) _
      refine XS.iloadN X8.here hx rfl (hb hby d3_5) rfl ?_
      show Steps p.tables e below (T8.setTop (mkF m 6 #[.val (.ref a1), .val (.int p2), .val (.int (4 : Int32)), .val (.int (4 : Int32))] [(.int (4 : Int32))])) _
      refine XS.iloadN X8.here hx rfl (hb hby d3_6) rfl ?_
      show Steps p.tables e below (T8.setTop (mkF m 7 #[.val (.ref a1), .val (.int p2), .val (.int (4 : Int32)), .val (.int (4 : Int32))] [(.int (4 : Int32)), (.int (4 : Int32))])) _
      refine XS.icmpYes X8.here hx rfl (pc0 := 7) (pc' := 20) rfl (hb hby d3_7) rfl (flt (show ¬ ((4 : Int32) < (4 : Int32)) from (by decide : ¬ ((4 : Int32) < (4 : Int32))))).2.1 (by decide) (by decide) ?_
      show Steps p.tables e below (T8.setTop (mkF m 20 #[.val (.ref a1), .val (.int p2), .val (.int (4 : Int32)), .val (.int (4 : Int32))] [])) _
      exact k)
  obtain ⟨fs, hr, hrun, hended, hW, hsame⟩ := X8.leave (v := none) (fun _ => rfl)
  refine ⟨_, _, pre9 _ (X8.returnOut hx Bd.returns (hb hby d3_20) hr), hrun, hended, _, _, rfl, ?_, ⟨_, rfl⟩, hW, hsame.mono (by decide) (by decide)⟩
  show Qf Z a1 p2 xs h0 n0 _ T8.heap _
  rw [e8]
  exact ⟨rfl, N8, K4, I4⟩
def Qi (Z : State) (a1 : Addr) (h0 : Heap) (n0 : Nat) (v : Option Value) (h : Heap) (L : List Loc) : Prop := v = none ∧ Fr n0 L ∧ h0.size ≤ h.size ∧ ∃ bm bp : Addr, n0 ≤ bm ∧ n0 ≤ bp ∧ Ob Z h a1 bm bp [-1, -1, -1, -1] [0, 0, 0, 0] 0
theorem pn_1 : plainName "com/example/omphalos/omphalos/selfstab/EnabledNodes" = true := by first | (simp [plainName, overriddenIn]; done) | decide +kernel
theorem ef_1 (m : MethodId) (a1 : Addr) : entryFrame m #[(.ref a1), (.int (4 : Int32))] 2 = mkF m 0 #[.val (.ref a1), .val (.int (4 : Int32))] [] := by first | (simp [entryFrame, mkF, argsToLocals, Value.category]; done) | rfl
set_option maxRecDepth 65536 in
set_option maxHeartbeats 40000000 in
theorem rmi (l : Launch) (Z : State) (a0 : Array Value) (hw : ∀ d ∈ tables_1, d.before a0 Z = true) (ws : List Jvm.Cond) (a1 : Addr)  (h0 : Heap) (n0 : Nat) (Z0 : n0 ≤ h0.size) (E1 : Exa Z h0 a1 "com/example/omphalos/omphalos/selfstab/EnabledNodes") (F1 : Fld Z h0 a1 "com/example/omphalos/omphalos/selfstab/EnabledNodes" "members" "[I" .null) (F2 : Fld Z h0 a1 "com/example/omphalos/omphalos/selfstab/EnabledNodes" "position" "[I" .null) (F3 : Fld Z h0 a1 "com/example/omphalos/omphalos/selfstab/EnabledNodes" "size" "I" (.int (0 : Int32))) (g1 : n0 ≤ a1) :
    MetFree l (⟨"com/example/omphalos/omphalos/selfstab/EnabledNodes", "<init>", "(I)V"⟩ : MethodName) (head1 (Jvm.Cond.code (⟨"com/example/omphalos/omphalos/selfstab/EnabledNodes", "<init>", "(I)V"⟩ : MethodName) prog_39_method_1_code 2 none :: ws) ({ frames := 2, cells := 2, slots := 8, locals := 24 } : Room)) (fun a U => a = #[(.ref a1), (.int (4 : Int32))] ∧ Z.Warmed39 U.vm ∧ U.heap = h0) (fun _ _ _ _ _ => True) (fun _ U o U' => ∃ v L, o = .returned v ∧ Qi Z a1 h0 n0 v U'.heap L ∧ FrameEnd U o U' L ({ frames := 2, cells := 2, slots := 8, locals := 24 } : Room).cells ({ frames := 2, cells := 2, slots := 8, locals := 24 } : Room).slots) := by
  refine MetFree.of_bodySF (plainFor_of_name pn_1) hisR ?_
  intro p e s m args below meth c s₁ Bd hml0 hP hK
  obtain ⟨rfl, hZ, hh⟩ := hP
  have hx := Bd.exec
  have hby := Bd.bytes
  have hml : c.maxLocals = 2 := hml0
  have hown : s.vm.findClass "com/example/omphalos/omphalos/selfstab/EnabledNodes" = some m.cls := findClass_of_methodNamed Bd.named
  have hnm := (name_of_methodNamed Bd.named Bd.method).1
  have X0 : Stand p l e ({ frames := 2, cells := 2, slots := 8, locals := 24 } : Room) s m #[(.ref a1), (.int (4 : Int32))] below meth c s₁ [] 0 0 := Stand.of_body Bd
  have e0 : s₁.heap = h0 := by rw [← hh, Bd.state]; rfl
  have N0 := Fr.nil n0
  have pre0 : Goes p e below s₁ (entryFrame m #[(.ref a1), (.int (4 : Int32))] 2) s₁ (mkF m 0 #[.val (.ref a1), .val (.int (4 : Int32))] []) := fun t k => castTop (ef_1 m a1) k
  have pre10 : Goes p e below s₁ (entryFrame m #[(.ref a1), (.int (4 : Int32))] 2) s₁ (mkF m 1 #[.val (.ref a1), .val (.int (4 : Int32))] [(.ref a1)]) := fun t k => pre0 t (by
      refine XS.aloadN X0.here hx rfl (hb hby d1_0) rfl rfl ?_
      show Steps p.tables e below (s₁.setTop (mkF m 1 #[.val (.ref a1), .val (.int (4 : Int32))] [(.ref a1)])) _
      exact k)
  obtain ⟨T11, X11, e11, st11⟩ := initO X0 hx hZ hown (hw _ (List.mem_of_getElem? (i := 6) rfl)) (hw _ (List.mem_of_getElem? (i := 7) rfl)) (hw _ (List.mem_of_getElem? (i := 8) rfl)) e0 (g := (mkF m 1 #[.val (.ref a1), .val (.int (4 : Int32))] [(.ref a1)])) rfl (by rw [hml]; rfl) rfl (hb hby d1_1) (by decide) (W := 0) (by show 2 * 0 + _ ≤ _; exact Nat.le_of_eq rfl) (by decide)
  have pre11 : Goes p e below s₁ (entryFrame m #[(.ref a1), (.int (4 : Int32))] 2) T11 (mkF m 4 #[.val (.ref a1), .val (.int (4 : Int32))] []) := fun t k => pre10 t (st11 _ k)
  have pre12 : Goes p e below s₁ (entryFrame m #[(.ref a1), (.int (4 : Int32))] 2) T11 (mkF m 6 #[.val (.ref a1), .val (.int (4 : Int32))] [(.int (4 : Int32)), (.ref a1)]) := fun t k => pre11 t (by
      refine XS.aloadN X11.here hx rfl (hb hby d1_4) rfl rfl ?_
      show Steps p.tables e below (T11.setTop (mkF m 5 #[.val (.ref a1), .val (.int (4 : Int32))] [(.ref a1)])) _
      refine XS.iloadN X11.here hx rfl (hb hby d1_5) rfl ?_
      show Steps p.tables e below (T11.setTop (mkF m 6 #[.val (.ref a1), .val (.int (4 : Int32))] [(.int (4 : Int32)), (.ref a1)])) _
      exact k)
  obtain ⟨T13, h13, k13, X13, e13, E13, A13, st13⟩ := newP X11 hx hZ (hw _ (List.mem_of_getElem? (i := 9) rfl)) e11 (g := (mkF m 6 #[.val (.ref a1), .val (.int (4 : Int32))] [(.int (4 : Int32)), (.ref a1)])) rfl (hb hby d1_6) rfl (by decide) (cap := 4) (by decide) (by decide) (by decide) (by decide)
  obtain ⟨b13, g13⟩ : ∃ z, z = h0.size := ⟨_, rfl⟩
  rw [← g13] at A13 st13
  have pre13 : Goes p e below s₁ (entryFrame m #[(.ref a1), (.int (4 : Int32))] 2) T13 (mkF m 8 #[.val (.ref a1), .val (.int (4 : Int32))] [(.ref b13), (.ref a1)]) := fun t k => pre12 t (st13 _ k)
  have Im : Ia Z h13 b13 [0, 0, 0, 0] := ⟨_, A13, by simp [newA]; rfl⟩
  have gm : n0 ≤ b13 := Nat.le_trans Z0 (Nat.le_of_eq g13.symm)
  have z1 : h0.size ≤ h13.size := E13.1
  have E1 := E1.ext E13
  have nm : a1 ≠ b13 := Nat.ne_of_lt (Nat.lt_of_lt_of_le F1.lt (Nat.le_of_eq g13.symm))
  have F1 := F1.ext E13
  have F2 := F2.ext E13
  have F3 := F3.ext E13
  obtain ⟨T14, h14, X14, e14, W14, st14⟩ := putF X13 hx hZ hown (host := "") (Or.inl (hw _ (List.mem_of_getElem? (i := 10) rfl))) Via.refl e13 F1 E1 (Or.inr ⟨(hw _ (List.mem_of_getElem? (i := 11) rfl)), rfl, hnm⟩) (hw _ (List.mem_of_getElem? (i := 1) rfl)) (ty := (.array .int)) (by decide) rfl rfl (g := (mkF m 8 #[.val (.ref a1), .val (.int (4 : Int32))] [(.ref b13), (.ref a1)])) rfl rfl (hb hby d1_8)
  have N14 := Fr.snoc X14 N0 g1
  have pre14 : Goes p e below s₁ (entryFrame m #[(.ref a1), (.int (4 : Int32))] 2) T14 (mkF m 11 #[.val (.ref a1), .val (.int (4 : Int32))] []) := fun t k => pre13 t (st14 _ k)
  have z2 : h0.size ≤ h14.size := W14.size ▸ z1
  have F1 := F1.same W14
  have F2 := F2.other W14 (Or.inr (slot_ne (Or.inr (hw _ (List.mem_of_getElem? (i := 13) rfl))) (Or.inr (hw _ (List.mem_of_getElem? (i := 11) rfl))) (by decide) (t := (.array .int)) (t' := (.array .int)) (by decide) (by decide)))
  have F3 := F3.other W14 (Or.inr (slot_ne (Or.inl (hw _ (List.mem_of_getElem? (i := 34) rfl))) (Or.inr (hw _ (List.mem_of_getElem? (i := 11) rfl))) (by decide) (t := .int) (t' := (.array .int)) (by decide) (by decide)))
  have E1 := E1.wr W14
  have Im := Im.other W14 (Ne.symm nm)
  have pre15 : Goes p e below s₁ (entryFrame m #[(.ref a1), (.int (4 : Int32))] 2) T14 (mkF m 13 #[.val (.ref a1), .val (.int (4 : Int32))] [(.int (4 : Int32)), (.ref a1)]) := fun t k => pre14 t (by
      refine XS.aloadN X14.here hx rfl (hb hby d1_11) rfl rfl ?_
      show Steps p.tables e below (T14.setTop (mkF m 12 #[.val (.ref a1), .val (.int (4 : Int32))] [(.ref a1)])) _
      refine XS.iloadN X14.here hx rfl (hb hby d1_12) rfl ?_
      show Steps p.tables e below (T14.setTop (mkF m 13 #[.val (.ref a1), .val (.int (4 : Int32))] [(.int (4 : Int32)), (.ref a1)])) _
      exact k)
  obtain ⟨T16, h16, k16, X16, e16, E16, A16, st16⟩ := newP X14 hx hZ (hw _ (List.mem_of_getElem? (i := 9) rfl)) e14 (g := (mkF m 13 #[.val (.ref a1), .val (.int (4 : Int32))] [(.int (4 : Int32)), (.ref a1)])) rfl (hb hby d1_13) rfl (by decide) (cap := 4) (by decide) (by decide) (by decide) (by decide)
  obtain ⟨b16, g16⟩ : ∃ z, z = h14.size := ⟨_, rfl⟩
  rw [← g16] at A16 st16
  have pre16 : Goes p e below s₁ (entryFrame m #[(.ref a1), (.int (4 : Int32))] 2) T16 (mkF m 15 #[.val (.ref a1), .val (.int (4 : Int32))] [(.ref b16), (.ref a1)]) := fun t k => pre15 t (st16 _ k)
  have Ip : Ia Z h16 b16 [0, 0, 0, 0] := ⟨_, A16, by simp [newA]; rfl⟩
  have gp : n0 ≤ b16 := Nat.le_trans (Nat.le_trans Z0 z2) (Nat.le_of_eq g16.symm)
  have z3 : h0.size ≤ h16.size := Nat.le_trans z2 E16.1
  have np : a1 ≠ b16 := Nat.ne_of_lt (Nat.lt_of_lt_of_le F1.lt (Nat.le_of_eq g16.symm))
  have nq : b13 ≠ b16 := Nat.ne_of_lt (Nat.lt_of_lt_of_le Im.lt (Nat.le_of_eq g16.symm))
  have E1 := E1.ext E16
  have F1 := F1.ext E16
  have F2 := F2.ext E16
  have F3 := F3.ext E16
  have Im := Im.ext E16
  obtain ⟨T17, h17, X17, e17, W17, st17⟩ := putF X16 hx hZ hown (host := "") (Or.inl (hw _ (List.mem_of_getElem? (i := 12) rfl))) Via.refl e16 F2 E1 (Or.inr ⟨(hw _ (List.mem_of_getElem? (i := 13) rfl)), rfl, hnm⟩) (hw _ (List.mem_of_getElem? (i := 1) rfl)) (ty := (.array .int)) (by decide) rfl rfl (g := (mkF m 15 #[.val (.ref a1), .val (.int (4 : Int32))] [(.ref b16), (.ref a1)])) rfl rfl (hb hby d1_15)
  have N17 := Fr.snoc X17 N14 g1
  have pre17 : Goes p e below s₁ (entryFrame m #[(.ref a1), (.int (4 : Int32))] 2) T17 (mkF m 18 #[.val (.ref a1), .val (.int (4 : Int32))] []) := fun t k => pre16 t (st17 _ k)
  have z4 : h0.size ≤ h17.size := W17.size ▸ z3
  have F2 := F2.same W17
  have F1 := F1.other W17 (Or.inr (slot_ne (Or.inr (hw _ (List.mem_of_getElem? (i := 11) rfl))) (Or.inr (hw _ (List.mem_of_getElem? (i := 13) rfl))) (by decide) (t := (.array .int)) (t' := (.array .int)) (by decide) (by decide)))
  have F3 := F3.other W17 (Or.inr (slot_ne (Or.inl (hw _ (List.mem_of_getElem? (i := 34) rfl))) (Or.inr (hw _ (List.mem_of_getElem? (i := 13) rfl))) (by decide) (t := .int) (t' := (.array .int)) (by decide) (by decide)))
  have E1 := E1.wr W17
  have Im := Im.other W17 (Ne.symm nm)
  have Ip := Ip.other W17 (Ne.symm np)
  have Z4 : n0 ≤ h17.size := Nat.le_trans Z0 z4
  have pre18 : Goes p e below s₁ (entryFrame m #[(.ref a1), (.int (4 : Int32))] 2) T17 (mkF m 19 #[.val (.ref a1), .val (.int (4 : Int32))] [(.ref a1)]) := fun t k => pre17 t (by
      refine XS.aloadN X17.here hx rfl (hb hby d1_18) rfl rfl ?_
      show Steps p.tables e below (T17.setTop (mkF m 19 #[.val (.ref a1), .val (.int (4 : Int32))] [(.ref a1)])) _
      exact k)
  obtain ⟨T19, X19, e19, st19⟩ := getF X17 hx hZ hown (host := "") (Or.inl (hw _ (List.mem_of_getElem? (i := 12) rfl))) Via.refl e17 F2 (g := (mkF m 19 #[.val (.ref a1), .val (.int (4 : Int32))] [(.ref a1)])) rfl rfl (hb hby d1_19)
  have pre19 : Goes p e below s₁ (entryFrame m #[(.ref a1), (.int (4 : Int32))] 2) T19 (mkF m 22 #[.val (.ref a1), .val (.int (4 : Int32))] [(.ref b16)]) := fun t k => pre18 t (st19 _ k)
  have pre20 : Goes p e below s₁ (entryFrame m #[(.ref a1), (.int (4 : Int32))] 2) T19 (mkF m 23 #[.val (.ref a1), .val (.int (4 : Int32))] [(.int (-1 : Int32)), (.ref b16)]) := fun t k => pre19 t (by
      refine XS.iconst X19.here hx rfl (hb hby d1_22) ?_
      show Steps p.tables e below (T19.setTop (mkF m 23 #[.val (.ref a1), .val (.int (4 : Int32))] [(.int (-1 : Int32)), (.ref b16)])) _
      exact k)
  obtain ⟨_, _, ⟨T21, L21, k21, n21⟩, -, X21, ⟨Lc21, hQ21, l21, y21, z21⟩, st21⟩ := Jvm.LawKit.callS X19 hx (y := (⟨"java/util/Arrays", "fill", "([II)V"⟩ : MethodName)) hown (mvT hZ (hw _ (List.mem_of_getElem? (i := 14) rfl))) (mvT hZ (hw _ (List.mem_of_getElem? (i := 15) rfl))) (mvT hZ (hw _ (List.mem_of_getElem? (i := 16) rfl))) (mvT hZ (hw _ (List.mem_of_getElem? (i := 17) rfl))) (by decide) (backOf (W := 0) (rmf l Z a0 hw [] b16 (-1 : Int32) [0, 0, 0, 0] h17 n0 Z4 Ip rfl gp) hZ (hw _ (List.mem_of_getElem? (i := 17) rfl)) (hw _ (List.mem_of_getElem? (i := 16) rfl)) (by decide) (by decide)) (g := (mkF m 23 #[.val (.ref a1), .val (.int (4 : Int32))] [(.int (-1 : Int32)), (.ref b16)])) rfl (by rw [hml]; rfl) (argsL := [(.ref b16), (.int (-1 : Int32))]) (rest := []) (lenOf pd_0 rfl) rfl (by show 2 * 0 + _ ≤ _; exact Nat.le_of_eq rfl) (hb hby d1_23) (fun _ _ => ⟨rfl, e19, (by decide : 2 + 0 ≤ _), (by decide : 8 + 0 ≤ _)⟩)
  dsimp only [Pt.U, Pt.locs, Pt.cells, Pt.slots] at X21 l21 y21 z21 st21 hQ21
  subst l21 y21 z21
  obtain ⟨rfl, N21q, eh21⟩ := hQ21
  have N21 := Fr.app N17 N21q
  have pre21 : Goes p e below s₁ (entryFrame m #[(.ref a1), (.int (4 : Int32))] 2) T21 (mkF m 26 #[.val (.ref a1), .val (.int (4 : Int32))] []) := fun t k => pre20 t (st21 _ k)
  obtain ⟨Kf, If⟩ := eh21
  have nk : a1 ∉ [b16] := ninS np nin0
  have nkm : b13 ∉ [b16] := ninS nq nin0
  have Imf : Ia Z T21.heap b13 [0, 0, 0, 0] := by obtain ⟨c, A, l⟩ := Im; exact ⟨c, ⟨Kf.2.1 _ _ A.1 nkm, A.2⟩, l⟩
  obtain ⟨fs, hr, hrun, hended, hW, hsame⟩ := X21.leave (v := none) (fun _ => rfl)
  refine ⟨_, _, pre21 _ (X21.returnOut hx Bd.returns (hb hby d1_26) hr), hrun, hended, _, _, rfl, ?_, ⟨_, rfl⟩, hW, hsame.mono (by decide) (by decide)⟩
  show Qi Z a1 h0 n0 _ T21.heap _
  exact ⟨rfl, N21, Nat.le_trans z4 Kf.1, b13, b16, gm, gp, E1.keep Kf, F1.keep Kf nk, F2.keep Kf nk, F3.keep Kf nk, Imf, If, nm, np, nq⟩
def fC (pos : List Int32) (j : Int32) : Int32 := if pos.getD j.toNatClampNeg 0 < 0 then 0 else 1
def Qc (Z : State) (a1 : Addr) (p2 : Int32) (bm bp : Addr) (pos mem : List Int32) (sz : Int32) (h0 : Heap) (n0 : Nat) (v : Option Value) (h : Heap) (L : List Loc) : Prop := v = some (.int (fC pos p2)) ∧ Fr n0 L ∧ h = h0
theorem pn_5 : plainName "com/example/omphalos/omphalos/selfstab/EnabledNodes" = true := by first | (simp [plainName, overriddenIn]; done) | decide +kernel
theorem ef_5 (m : MethodId) (a1 : Addr) (p2 : Int32) : entryFrame m #[(.ref a1), (.int p2)] 2 = mkF m 0 #[.val (.ref a1), .val (.int p2)] [] := by first | (simp [entryFrame, mkF, argsToLocals, Value.category]; done) | rfl
set_option maxRecDepth 65536 in
set_option maxHeartbeats 40000000 in
theorem rmc (l : Launch) (Z : State) (a0 : Array Value) (hw : ∀ d ∈ tables_1, d.before a0 Z = true) (ws : List Jvm.Cond) (a1 : Addr) (p2 : Int32) (bm bp : Addr) (pos mem : List Int32) (sz : Int32) (h0 : Heap) (n0 : Nat) (Z0 : n0 ≤ h0.size) (O0 : Ob Z h0 a1 bm bp pos mem sz) (hp : pos.length = 4) (r : inR p2) :
    MetFree l (⟨"com/example/omphalos/omphalos/selfstab/EnabledNodes", "contains", "(I)Z"⟩ : MethodName) (head1 (Jvm.Cond.code (⟨"com/example/omphalos/omphalos/selfstab/EnabledNodes", "contains", "(I)Z"⟩ : MethodName) prog_39_method_6_code 2 (some .boolean) :: ws) ({ frames := 0, cells := 0, slots := 0, locals := 0 } : Room)) (fun a U => a = #[(.ref a1), (.int p2)] ∧ Z.Warmed39 U.vm ∧ U.heap = h0) (fun _ _ _ _ _ => True) (fun _ U o U' => ∃ v L, o = .returned v ∧ Qc Z a1 p2 bm bp pos mem sz h0 n0 v U'.heap L ∧ FrameEnd U o U' L ({ frames := 0, cells := 0, slots := 0, locals := 0 } : Room).cells ({ frames := 0, cells := 0, slots := 0, locals := 0 } : Room).slots) := by
  refine MetFree.of_bodySF (plainFor_of_name pn_5) hisR ?_
  intro p e s m args below meth c s₁ Bd hml0 hP hK
  obtain ⟨rfl, hZ, hh⟩ := hP
  have hx := Bd.exec
  have hby := Bd.bytes
  have hml : c.maxLocals = 2 := hml0
  have hown : s.vm.findClass "com/example/omphalos/omphalos/selfstab/EnabledNodes" = some m.cls := findClass_of_methodNamed Bd.named
  have hnm := (name_of_methodNamed Bd.named Bd.method).1
  have X0 : Stand p l e ({ frames := 0, cells := 0, slots := 0, locals := 0 } : Room) s m #[(.ref a1), (.int p2)] below meth c s₁ [] 0 0 := Stand.of_body Bd
  have e0 : s₁.heap = h0 := by rw [← hh, Bd.state]; rfl
  have N0 := Fr.nil n0
  have pre0 : Goes p e below s₁ (entryFrame m #[(.ref a1), (.int p2)] 2) s₁ (mkF m 0 #[.val (.ref a1), .val (.int p2)] []) := fun t k => castTop (ef_5 m a1 p2) k
  obtain ⟨E0, Fm0, Fp0, Fz0, ⟨cm0, Am0, lm0⟩, ⟨cp0, Ap0, lp0⟩, -, -, -⟩ := id O0
  have pre22 : Goes p e below s₁ (entryFrame m #[(.ref a1), (.int p2)] 2) s₁ (mkF m 1 #[.val (.ref a1), .val (.int p2)] [(.ref a1)]) := fun t k => pre0 t (by
      refine XS.aloadN X0.here hx rfl (hb hby d5_0) rfl rfl ?_
      show Steps p.tables e below (s₁.setTop (mkF m 1 #[.val (.ref a1), .val (.int p2)] [(.ref a1)])) _
      exact k)
  obtain ⟨T23, X23, e23, st23⟩ := getF X0 hx hZ hown (host := "") (Or.inl (hw _ (List.mem_of_getElem? (i := 12) rfl))) Via.refl e0 Fp0 (g := (mkF m 1 #[.val (.ref a1), .val (.int p2)] [(.ref a1)])) rfl rfl (hb hby d5_1)
  have pre23 : Goes p e below s₁ (entryFrame m #[(.ref a1), (.int p2)] 2) T23 (mkF m 4 #[.val (.ref a1), .val (.int p2)] [(.ref bp)]) := fun t k => pre22 t (st23 _ k)
  have pre24 : Goes p e below s₁ (entryFrame m #[(.ref a1), (.int p2)] 2) T23 (mkF m 6 #[.val (.ref a1), .val (.int p2)] [(.int (pos.getD p2.toNatClampNeg 0))]) := fun t k => pre23 t (by
      refine XS.iloadN X23.here hx rfl (hb hby d5_4) rfl ?_
      show Steps p.tables e below (T23.setTop (mkF m 5 #[.val (.ref a1), .val (.int p2)] [(.int p2), (.ref bp)])) _
      refine X23.iaload hx (j := p2) (v := (.int (pos.getD p2.toNatClampNeg 0))) (by rw [e23]; exact Ap0.1) (State.isArrayOf_alike hZ.alike Ap0.2.1) Ap0.2.2 (r.inb lp0 hp) (r.at lp0 hp) (g := (mkF m 5 #[.val (.ref a1), .val (.int p2)] [(.int p2), (.ref bp)])) rfl rfl (hb hby d5_5) _ ?_
      show Steps p.tables e below (T23.setTop (mkF m 6 #[.val (.ref a1), .val (.int p2)] [(.int (pos.getD p2.toNatClampNeg 0))])) _
      exact k)
  by_cases hc25 : (pos.getD p2.toNatClampNeg 0) < (0 : Int32)
  · skip
    have pre26 : Goes p e below s₁ (entryFrame m #[(.ref a1), (.int p2)] 2) T23 (mkF m 14 #[.val (.ref a1), .val (.int p2)] [(.int (0 : Int32))]) := fun t k => pre24 t (by
        refine XS.ifYes X23.here hx rfl (pc0 := 6) (pc' := 13) rfl (hb hby d5_6) rfl ((if0 _ _).trans (tlt hc25).1) (by decide) (by decide) ?_
        show Steps p.tables e below (T23.setTop (mkF m 13 #[.val (.ref a1), .val (.int p2)] [])) _
        refine XS.iconst X23.here hx rfl (hb hby d5_13) ?_
        show Steps p.tables e below (T23.setTop (mkF m 14 #[.val (.ref a1), .val (.int p2)] [(.int (0 : Int32))])) _
        exact k)
    obtain ⟨fs, hr, hrun, hended, hW, hsame⟩ := X23.leave (v := some (.int (0 : Int32))) (fun h => by rw [Bd.returns] at h; cases h)
    refine ⟨_, _, pre26 _ (retN X23 hx (t := .boolean) Bd.returns (by simp) (hb hby d5_14) hr), hrun, hended, _, _, rfl, ?_, ⟨_, rfl⟩, hW, hsame.mono (by decide) (by decide)⟩
    show Qc Z a1 p2 bm bp pos mem sz h0 n0 _ T23.heap _
    rw [e23]
    exact ⟨by simp only [fC, hc25, if_true, if_false], N0, rfl⟩
  · skip
    have pre27 : Goes p e below s₁ (entryFrame m #[(.ref a1), (.int p2)] 2) T23 (mkF m 14 #[.val (.ref a1), .val (.int p2)] [(.int (1 : Int32))]) := fun t k => pre24 t (by
        refine XS.ifNo X23.here hx rfl (hb hby d5_6) rfl ((if0 _ _).trans (flt hc25).1) ?_
        show Steps p.tables e below (T23.setTop (mkF m 9 #[.val (.ref a1), .val (.int p2)] [])) _
        refine XS.iconst X23.here hx rfl (hb hby d5_9) ?_
        show Steps p.tables e below (T23.setTop (mkF m 10 #[.val (.ref a1), .val (.int p2)] [(.int (1 : Int32))])) _
        refine XS.goto X23.here hx rfl (pc0 := 10) (pc' := 14) rfl (hb hby d5_10) (by decide) (by decide) ?_
        show Steps p.tables e below (T23.setTop (mkF m 14 #[.val (.ref a1), .val (.int p2)] [(.int (1 : Int32))])) _
        exact k)
    obtain ⟨fs, hr, hrun, hended, hW, hsame⟩ := X23.leave (v := some (.int (1 : Int32))) (fun h => by rw [Bd.returns] at h; cases h)
    refine ⟨_, _, pre27 _ (retN X23 hx (t := .boolean) Bd.returns (by simp) (hb hby d5_14) hr), hrun, hended, _, _, rfl, ?_, ⟨_, rfl⟩, hW, hsame.mono (by decide) (by decide)⟩
    show Qc Z a1 p2 bm bp pos mem sz h0 n0 _ T23.heap _
    rw [e23]
    exact ⟨by simp only [fC, hc25, if_true, if_false], N0, rfl⟩
def lastM (mem : List Int32) (sz : Int32) : Int32 := mem.getD (sz - 1).toNatClampNeg 0
def setP (pos mem : List Int32) (sz j en : Int32) : List Int32 := if en = 0 then (if fC pos j = 0 then pos else (pos.set (lastM mem sz).toNatClampNeg (pos.getD j.toNatClampNeg 0)).set j.toNatClampNeg (-1)) else (if fC pos j = 0 then pos.set j.toNatClampNeg sz else pos)
def setM (pos mem : List Int32) (sz j en : Int32) : List Int32 := if en = 0 then (if fC pos j = 0 then mem else mem.set (pos.getD j.toNatClampNeg 0).toNatClampNeg (lastM mem sz)) else (if fC pos j = 0 then mem.set sz.toNatClampNeg j else mem)
def setZ (pos mem : List Int32) (sz j en : Int32) : Int32 := if en = 0 then (if fC pos j = 0 then sz else sz - 1) else (if fC pos j = 0 then sz + 1 else sz)
def Safe (pos mem : List Int32) (sz j en : Int32) : Prop := if en = 0 then (if fC pos j = 0 then True else inR (sz - 1) ∧ inR (lastM mem sz) ∧ inR (pos.getD j.toNatClampNeg 0)) else (if fC pos j = 0 then inR sz else True)
instance (pos mem : List Int32) (sz j en : Int32) : Decidable (Safe pos mem sz j en) := by unfold Safe; infer_instance
theorem setP_len (pos mem : List Int32) (sz j en : Int32) : (setP pos mem sz j en).length = pos.length := by
  unfold setP; split <;> split <;> simp
theorem setM_len (pos mem : List Int32) (sz j en : Int32) : (setM pos mem sz j en).length = mem.length := by
  unfold setM; split <;> split <;> simp
def Qs (Z : State) (a1 : Addr) (p2 p3 : Int32) (bm bp : Addr) (pos mem : List Int32) (sz : Int32) (h0 : Heap) (n0 : Nat) (v : Option Value) (h : Heap) (L : List Loc) : Prop := v = none ∧ Fr n0 L ∧ h0.size ≤ h.size ∧ Ob Z h a1 bm bp (setP pos mem sz p2 p3) (setM pos mem sz p2 p3) (setZ pos mem sz p2 p3)
theorem pn_4 : plainName "com/example/omphalos/omphalos/selfstab/EnabledNodes" = true := by first | (simp [plainName, overriddenIn]; done) | decide +kernel
theorem ef_4 (m : MethodId) (a1 : Addr) (p2 : Int32) (p3 : Int32) : entryFrame m #[(.ref a1), (.int p2), (.int p3)] 4 = mkF m 0 #[.val (.ref a1), .val (.int p2), .val (.int p3), .unset] [] := by first | (simp [entryFrame, mkF, argsToLocals, Value.category]; done) | rfl
set_option maxRecDepth 65536 in
set_option maxHeartbeats 40000000 in
theorem rms (l : Launch) (Z : State) (a0 : Array Value) (hw : ∀ d ∈ tables_1, d.before a0 Z = true) (ws : List Jvm.Cond) (a1 : Addr) (p2 : Int32) (p3 : Int32) (bm bp : Addr) (pos mem : List Int32) (sz : Int32) (h0 : Heap) (n0 : Nat) (Z0 : n0 ≤ h0.size) (O0 : Ob Z h0 a1 bm bp pos mem sz) (hp : pos.length = 4) (hm : mem.length = 4) (r : inR p2) (sf : Safe pos mem sz p2 p3) (g1 : n0 ≤ a1) (gm : n0 ≤ bm) (gp : n0 ≤ bp) :
    MetFree l (⟨"com/example/omphalos/omphalos/selfstab/EnabledNodes", "set", "(IZ)V"⟩ : MethodName) (head1 (Jvm.Cond.code (⟨"com/example/omphalos/omphalos/selfstab/EnabledNodes", "set", "(IZ)V"⟩ : MethodName) prog_39_method_5_code 4 none :: ws) ({ frames := 1, cells := 0, slots := 0, locals := 13 } : Room)) (fun a U => a = #[(.ref a1), (.int p2), (.int p3)] ∧ Z.Warmed39 U.vm ∧ U.heap = h0) (fun _ _ _ _ _ => True) (fun _ U o U' => ∃ v L, o = .returned v ∧ Qs Z a1 p2 p3 bm bp pos mem sz h0 n0 v U'.heap L ∧ FrameEnd U o U' L ({ frames := 1, cells := 0, slots := 0, locals := 13 } : Room).cells ({ frames := 1, cells := 0, slots := 0, locals := 13 } : Room).slots) := by
  refine MetFree.of_bodySF (plainFor_of_name pn_4) hisR ?_
  intro p e s m args below meth c s₁ Bd hml0 hP hK
  obtain ⟨rfl, hZ, hh⟩ := hP
  have hx := Bd.exec
  have hby := Bd.bytes
  have hml : c.maxLocals = 4 := hml0
  have hown : s.vm.findClass "com/example/omphalos/omphalos/selfstab/EnabledNodes" = some m.cls := findClass_of_methodNamed Bd.named
  have hnm := (name_of_methodNamed Bd.named Bd.method).1
  have X0 : Stand p l e ({ frames := 1, cells := 0, slots := 0, locals := 13 } : Room) s m #[(.ref a1), (.int p2), (.int p3)] below meth c s₁ [] 0 0 := Stand.of_body Bd
  have e0 : s₁.heap = h0 := by rw [← hh, Bd.state]; rfl
  have N0 := Fr.nil n0
  have pre0 : Goes p e below s₁ (entryFrame m #[(.ref a1), (.int p2), (.int p3)] 4) s₁ (mkF m 0 #[.val (.ref a1), .val (.int p2), .val (.int p3), .unset] []) := fun t k => castTop (ef_4 m a1 p2 p3) k
  obtain ⟨E0, Fm0, Fp0, Fz0, ⟨cm0, Am0, lm0⟩, ⟨cp0, Ap0, lp0⟩, -, -, -⟩ := id O0
  have pre28 : Goes p e below s₁ (entryFrame m #[(.ref a1), (.int p2), (.int p3)] 4) s₁ (mkF m 1 #[.val (.ref a1), .val (.int p2), .val (.int p3), .unset] [(.int p3)]) := fun t k => pre0 t (by
      refine XS.iloadN X0.here hx rfl (hb hby d4_0) rfl ?_
      show Steps p.tables e below (s₁.setTop (mkF m 1 #[.val (.ref a1), .val (.int p2), .val (.int p3), .unset] [(.int p3)])) _
      exact k)
  by_cases he : p3 = (0 : Int32)
  · skip
    have pre29 : Goes p e below s₁ (entryFrame m #[(.ref a1), (.int p2), (.int p3)] 4) s₁ (mkF m 48 #[.val (.ref a1), .val (.int p2), .val (.int p3), .unset] [(.int p2), (.ref a1)]) := fun t k => pre28 t (by
        refine XS.ifYes X0.here hx rfl (pc0 := 1) (pc' := 42) rfl (hb hby d4_1) rfl ((if0 _ _).trans (teq he).1) (by decide) (by decide) ?_
        show Steps p.tables e below (s₁.setTop (mkF m 42 #[.val (.ref a1), .val (.int p2), .val (.int p3), .unset] [])) _
        refine XS.iloadN X0.here hx rfl (hb hby d4_42) rfl ?_
        show Steps p.tables e below (s₁.setTop (mkF m 43 #[.val (.ref a1), .val (.int p2), .val (.int p3), .unset] [(.int p3)])) _
        refine XS.ifNo X0.here hx rfl (hb hby d4_43) rfl ((if0 _ _).trans (teq he).2) ?_
        show Steps p.tables e below (s₁.setTop (mkF m 46 #[.val (.ref a1), .val (.int p2), .val (.int p3), .unset] [])) _
        refine XS.aloadN X0.here hx rfl (hb hby d4_46) rfl rfl ?_
        show Steps p.tables e below (s₁.setTop (mkF m 47 #[.val (.ref a1), .val (.int p2), .val (.int p3), .unset] [(.ref a1)])) _
        refine XS.iloadN X0.here hx rfl (hb hby d4_47) rfl ?_
        show Steps p.tables e below (s₁.setTop (mkF m 48 #[.val (.ref a1), .val (.int p2), .val (.int p3), .unset] [(.int p2), (.ref a1)])) _
        exact k)
    obtain ⟨cq30, kq30, q30a, q30b, q30c⟩ := isOf hZ e0 E0
    obtain ⟨_, _, ⟨T30, L30, k30, n30⟩, -, X30, ⟨Lc30, hQ30, l30, y30, z30⟩, st30⟩ := X0.virtualBack hx (y := (⟨"com/example/omphalos/omphalos/selfstab/EnabledNodes", "contains", "(I)Z"⟩ : MethodName)) (z := (⟨"com/example/omphalos/omphalos/selfstab/EnabledNodes", "contains", "(I)Z"⟩ : MethodName)) hown (mvT hZ (hw _ (List.mem_of_getElem? (i := 23) rfl))) (mvT hZ (hw _ (List.mem_of_getElem? (i := 24) rfl))) (notFace_of_selects (args := #[]) (mvT hZ (hw _ (List.mem_of_getElem? (i := 26) rfl)))) (mvT hZ (hw _ (List.mem_of_getElem? (i := 26) rfl))) (mvT hZ (hw _ (List.mem_of_getElem? (i := 25) rfl))) (by decide) (backOf (W := 0) (rmc l Z a0 hw [] a1 p2 bm bp pos mem sz h0 n0 Z0 O0 hp r) hZ (hw _ (List.mem_of_getElem? (i := 27) rfl)) (hw _ (List.mem_of_getElem? (i := 2) rfl)) (by decide) (by decide)) q30a q30c (g := (mkF m 48 #[.val (.ref a1), .val (.int p2), .val (.int p3), .unset] [(.int p2), (.ref a1)])) rfl (by rw [hml]; rfl) (Steps.refl _) (argsL := [(.int p2)]) (rest := []) (lenOf pd_1 rfl) rfl (by show 2 * 0 + _ ≤ _; exact Nat.le_of_eq rfl) (hb hby d4_48) (fun _ _ => ⟨rfl, e0, (by decide : 0 + 0 ≤ _), (by decide : 0 + 0 ≤ _)⟩)
    dsimp only [Pt.U, Pt.locs, Pt.cells, Pt.slots] at X30 l30 y30 z30 st30 hQ30
    subst l30 y30 z30
    obtain ⟨rfl, N30q, eh30⟩ := hQ30
    have N30 := Fr.app N0 N30q
    have pre30 : Goes p e below s₁ (entryFrame m #[(.ref a1), (.int p2), (.int p3)] 4) T30 (mkF m 51 #[.val (.ref a1), .val (.int p2), .val (.int p3), .unset] [(.int (fC pos p2))]) := fun t k => pre29 t (st30.trans k)
    by_cases hc : (fC pos p2) = (0 : Int32)
    · skip
      have pre31 : Goes p e below s₁ (entryFrame m #[(.ref a1), (.int p2), (.int p3)] 4) T30 (mkF m 102 #[.val (.ref a1), .val (.int p2), .val (.int p3), .unset] []) := fun t k => pre30 t (by
          refine XS.ifYes X30.here hx rfl (pc0 := 51) (pc' := 102) rfl (hb hby d4_51) rfl ((if0 _ _).trans (teq hc).1) (by decide) (by decide) ?_
          show Steps p.tables e below (T30.setTop (mkF m 102 #[.val (.ref a1), .val (.int p2), .val (.int p3), .unset] [])) _
          exact k)
      obtain ⟨fs, hr, hrun, hended, hW, hsame⟩ := X30.leave (v := none) (fun _ => rfl)
      refine ⟨_, _, pre31 _ (X30.returnOut hx Bd.returns (hb hby d4_102) hr), hrun, hended, _, _, rfl, ?_, ⟨_, rfl⟩, hW, hsame.mono (by decide) (by decide)⟩
      show Qs Z a1 p2 p3 bm bp pos mem sz h0 n0 _ T30.heap _
      rw [eh30]
      exact ⟨rfl, N30, Nat.le_refl _, by simp only [setP, setM, setZ, he, hc, if_true, if_false]; exact O0⟩
    · skip
      have sf' : inR (sz - 1) ∧ inR (lastM mem sz) ∧ inR (pos.getD p2.toNatClampNeg 0) := by simpa only [Safe, he, hc, if_true, if_false] using sf
      obtain ⟨r1, r2, r3⟩ := sf'
      have pre32 : Goes p e below s₁ (entryFrame m #[(.ref a1), (.int p2), (.int p3)] 4) T30 (mkF m 55 #[.val (.ref a1), .val (.int p2), .val (.int p3), .unset] [(.ref a1)]) := fun t k => pre30 t (by
          refine XS.ifNo X30.here hx rfl (hb hby d4_51) rfl ((if0 _ _).trans (feq hc).1) ?_
          show Steps p.tables e below (T30.setTop (mkF m 54 #[.val (.ref a1), .val (.int p2), .val (.int p3), .unset] [])) _
          refine XS.aloadN X30.here hx rfl (hb hby d4_54) rfl rfl ?_
          show Steps p.tables e below (T30.setTop (mkF m 55 #[.val (.ref a1), .val (.int p2), .val (.int p3), .unset] [(.ref a1)])) _
          exact k)
      obtain ⟨T33, X33, e33, st33⟩ := getF X30 hx hZ hown (host := "") (Or.inl (hw _ (List.mem_of_getElem? (i := 10) rfl))) Via.refl eh30 Fm0 (g := (mkF m 55 #[.val (.ref a1), .val (.int p2), .val (.int p3), .unset] [(.ref a1)])) rfl rfl (hb hby d4_55)
      have pre33 : Goes p e below s₁ (entryFrame m #[(.ref a1), (.int p2), (.int p3)] 4) T33 (mkF m 58 #[.val (.ref a1), .val (.int p2), .val (.int p3), .unset] [(.ref bm)]) := fun t k => pre32 t (st33 _ k)
      have pre34 : Goes p e below s₁ (entryFrame m #[(.ref a1), (.int p2), (.int p3)] 4) T33 (mkF m 60 #[.val (.ref a1), .val (.int p2), .val (.int p3), .unset] [(.ref a1), (.ref a1), (.ref bm)]) := fun t k => pre33 t (by
          refine XS.aloadN X33.here hx rfl (hb hby d4_58) rfl rfl ?_
          show Steps p.tables e below (T33.setTop (mkF m 59 #[.val (.ref a1), .val (.int p2), .val (.int p3), .unset] [(.ref a1), (.ref bm)])) _
          refine XS.dup X33.here hx rfl (hb hby d4_59) rfl rfl ?_
          show Steps p.tables e below (T33.setTop (mkF m 60 #[.val (.ref a1), .val (.int p2), .val (.int p3), .unset] [(.ref a1), (.ref a1), (.ref bm)])) _
          exact k)
      obtain ⟨T35, X35, e35, st35⟩ := getF X33 hx hZ hown (host := "") (Or.inl (hw _ (List.mem_of_getElem? (i := 33) rfl))) Via.refl e33 Fz0 (g := (mkF m 60 #[.val (.ref a1), .val (.int p2), .val (.int p3), .unset] [(.ref a1), (.ref a1), (.ref bm)])) rfl rfl (hb hby d4_60)
      have pre35 : Goes p e below s₁ (entryFrame m #[(.ref a1), (.int p2), (.int p3)] 4) T35 (mkF m 63 #[.val (.ref a1), .val (.int p2), .val (.int p3), .unset] [(.int sz), (.ref a1), (.ref bm)]) := fun t k => pre34 t (st35 _ k)
      have pre36 : Goes p e below s₁ (entryFrame m #[(.ref a1), (.int p2), (.int p3)] 4) T35 (mkF m 66 #[.val (.ref a1), .val (.int p2), .val (.int p3), .unset] [(.int (sz - (1 : Int32))), (.ref a1), (.int (sz - (1 : Int32))), (.ref bm)]) := fun t k => pre35 t (by
          refine XS.iconst X35.here hx rfl (hb hby d4_63) ?_
          show Steps p.tables e below (T35.setTop (mkF m 64 #[.val (.ref a1), .val (.int p2), .val (.int p3), .unset] [(.int (1 : Int32)), (.int sz), (.ref a1), (.ref bm)])) _
          refine XS.isub X35.here hx rfl (hb hby d4_64) rfl ?_
          show Steps p.tables e below (T35.setTop (mkF m 65 #[.val (.ref a1), .val (.int p2), .val (.int p3), .unset] [(.int (sz - (1 : Int32))), (.ref a1), (.ref bm)])) _
          refine XS.dupX1 X35.here hx rfl (hb hby d4_65) rfl rfl rfl ?_
          show Steps p.tables e below (T35.setTop (mkF m 66 #[.val (.ref a1), .val (.int p2), .val (.int p3), .unset] [(.int (sz - (1 : Int32))), (.ref a1), (.int (sz - (1 : Int32))), (.ref bm)])) _
          exact k)
      obtain ⟨T37, h37, X37, e37, W37, st37⟩ := putF X35 hx hZ hown (host := "") (Or.inl (hw _ (List.mem_of_getElem? (i := 33) rfl))) Via.refl e35 Fz0 E0 (Or.inl (hw _ (List.mem_of_getElem? (i := 34) rfl))) (hw _ (List.mem_of_getElem? (i := 1) rfl)) (ty := .int) (by decide) rfl rfl (g := (mkF m 66 #[.val (.ref a1), .val (.int p2), .val (.int p3), .unset] [(.int (sz - (1 : Int32))), (.ref a1), (.int (sz - (1 : Int32))), (.ref bm)])) rfl rfl (hb hby d4_66)
      have N37 := Fr.snoc X37 N30 g1
      have pre37 : Goes p e below s₁ (entryFrame m #[(.ref a1), (.int p2), (.int p3)] 4) T37 (mkF m 69 #[.val (.ref a1), .val (.int p2), .val (.int p3), .unset] [(.int (sz - (1 : Int32))), (.ref bm)]) := fun t k => pre36 t (st37 _ k)
      have O1 := O0.ws hw W37
      have z1 : h0.size ≤ h37.size := Nat.le_of_eq W37.size.symm
      obtain ⟨E1, Fm1, Fp1, Fz1, ⟨cm1, Am1, lm1⟩, ⟨cp1, Ap1, lp1⟩, -, -, -⟩ := id O1
      have pre38 : Goes p e below s₁ (entryFrame m #[(.ref a1), (.int p2), (.int p3)] 4) T37 (mkF m 72 #[.val (.ref a1), .val (.int p2), .val (.int p3), .val (.int (lastM mem sz))] [(.ref a1)]) := fun t k => pre37 t (by
          refine X37.iaload hx (j := (sz - (1 : Int32))) (v := (.int (lastM mem sz))) (by rw [e37]; exact Am1.1) (State.isArrayOf_alike hZ.alike Am1.2.1) Am1.2.2 (r1.inb lm1 hm) (r1.at lm1 hm) (g := (mkF m 69 #[.val (.ref a1), .val (.int p2), .val (.int p3), .unset] [(.int (sz - (1 : Int32))), (.ref bm)])) rfl rfl (hb hby d4_69) _ ?_
          show Steps p.tables e below (T37.setTop (mkF m 70 #[.val (.ref a1), .val (.int p2), .val (.int p3), .unset] [(.int (lastM mem sz))])) _
          refine XS.istoreN X37.here hx rfl (hb hby d4_70) rfl (l' := #[.val (.ref a1), .val (.int p2), .val (.int p3), .val (.int (lastM mem sz))]) rfl ?_
          show Steps p.tables e below (T37.setTop (mkF m 71 #[.val (.ref a1), .val (.int p2), .val (.int p3), .val (.int (lastM mem sz))] [])) _
          refine XS.aloadN X37.here hx rfl (hb hby d4_71) rfl rfl ?_
          show Steps p.tables e below (T37.setTop (mkF m 72 #[.val (.ref a1), .val (.int p2), .val (.int p3), .val (.int (lastM mem sz))] [(.ref a1)])) _
          exact k)
      obtain ⟨T39, X39, e39, st39⟩ := getF X37 hx hZ hown (host := "") (Or.inl (hw _ (List.mem_of_getElem? (i := 10) rfl))) Via.refl e37 Fm1 (g := (mkF m 72 #[.val (.ref a1), .val (.int p2), .val (.int p3), .val (.int (lastM mem sz))] [(.ref a1)])) rfl rfl (hb hby d4_72)
      have pre39 : Goes p e below s₁ (entryFrame m #[(.ref a1), (.int p2), (.int p3)] 4) T39 (mkF m 75 #[.val (.ref a1), .val (.int p2), .val (.int p3), .val (.int (lastM mem sz))] [(.ref bm)]) := fun t k => pre38 t (st39 _ k)
      have pre40 : Goes p e below s₁ (entryFrame m #[(.ref a1), (.int p2), (.int p3)] 4) T39 (mkF m 76 #[.val (.ref a1), .val (.int p2), .val (.int p3), .val (.int (lastM mem sz))] [(.ref a1), (.ref bm)]) := fun t k => pre39 t (by
          refine XS.aloadN X39.here hx rfl (hb hby d4_75) rfl rfl ?_
          show Steps p.tables e below (T39.setTop (mkF m 76 #[.val (.ref a1), .val (.int p2), .val (.int p3), .val (.int (lastM mem sz))] [(.ref a1), (.ref bm)])) _
          exact k)
      obtain ⟨T41, X41, e41, st41⟩ := getF X39 hx hZ hown (host := "") (Or.inl (hw _ (List.mem_of_getElem? (i := 12) rfl))) Via.refl e39 Fp1 (g := (mkF m 76 #[.val (.ref a1), .val (.int p2), .val (.int p3), .val (.int (lastM mem sz))] [(.ref a1), (.ref bm)])) rfl rfl (hb hby d4_76)
      have pre41 : Goes p e below s₁ (entryFrame m #[(.ref a1), (.int p2), (.int p3)] 4) T41 (mkF m 79 #[.val (.ref a1), .val (.int p2), .val (.int p3), .val (.int (lastM mem sz))] [(.ref bp), (.ref bm)]) := fun t k => pre40 t (st41 _ k)
      have pre42 : Goes p e below s₁ (entryFrame m #[(.ref a1), (.int p2), (.int p3)] 4) T41 (mkF m 82 #[.val (.ref a1), .val (.int p2), .val (.int p3), .val (.int (lastM mem sz))] [(.int (lastM mem sz)), (.int (pos.getD p2.toNatClampNeg 0)), (.ref bm)]) := fun t k => pre41 t (by
          refine XS.iloadN X41.here hx rfl (hb hby d4_79) rfl ?_
          show Steps p.tables e below (T41.setTop (mkF m 80 #[.val (.ref a1), .val (.int p2), .val (.int p3), .val (.int (lastM mem sz))] [(.int p2), (.ref bp), (.ref bm)])) _
          refine X41.iaload hx (j := p2) (v := (.int (pos.getD p2.toNatClampNeg 0))) (by rw [e41]; exact Ap1.1) (State.isArrayOf_alike hZ.alike Ap1.2.1) Ap1.2.2 (r.inb lp1 hp) (r.at lp1 hp) (g := (mkF m 80 #[.val (.ref a1), .val (.int p2), .val (.int p3), .val (.int (lastM mem sz))] [(.int p2), (.ref bp), (.ref bm)])) rfl rfl (hb hby d4_80) _ ?_
          show Steps p.tables e below (T41.setTop (mkF m 81 #[.val (.ref a1), .val (.int p2), .val (.int p3), .val (.int (lastM mem sz))] [(.int (pos.getD p2.toNatClampNeg 0)), (.ref bm)])) _
          refine XS.iloadN X41.here hx rfl (hb hby d4_81) rfl ?_
          show Steps p.tables e below (T41.setTop (mkF m 82 #[.val (.ref a1), .val (.int p2), .val (.int p3), .val (.int (lastM mem sz))] [(.int (lastM mem sz)), (.int (pos.getD p2.toNatClampNeg 0)), (.ref bm)])) _
          exact k)
      obtain ⟨T43, h43, X43, e43, W43, st43⟩ := stI X41 hx hZ e41 Am1 (j := (pos.getD p2.toNatClampNeg 0)) (r3.inb lm1 hm) (g := (mkF m 82 #[.val (.ref a1), .val (.int p2), .val (.int p3), .val (.int (lastM mem sz))] [(.int (lastM mem sz)), (.int (pos.getD p2.toNatClampNeg 0)), (.ref bm)])) rfl rfl (hb hby d4_82)
      have N43 := Fr.snoc X43 N37 gm
      have pre43 : Goes p e below s₁ (entryFrame m #[(.ref a1), (.int p2), (.int p3)] 4) T43 (mkF m 83 #[.val (.ref a1), .val (.int p2), .val (.int p3), .val (.int (lastM mem sz))] []) := fun t k => pre42 t (st43 _ k)
      have O2 := O1.wm W43
      have z2 : h0.size ≤ h43.size := W43.size ▸ z1
      obtain ⟨E2, Fm2, Fp2, Fz2, ⟨cm2, Am2, lm2⟩, ⟨cp2, Ap2, lp2⟩, -, -, -⟩ := id O2
      have pre44 : Goes p e below s₁ (entryFrame m #[(.ref a1), (.int p2), (.int p3)] 4) T43 (mkF m 84 #[.val (.ref a1), .val (.int p2), .val (.int p3), .val (.int (lastM mem sz))] [(.ref a1)]) := fun t k => pre43 t (by
          refine XS.aloadN X43.here hx rfl (hb hby d4_83) rfl rfl ?_
          show Steps p.tables e below (T43.setTop (mkF m 84 #[.val (.ref a1), .val (.int p2), .val (.int p3), .val (.int (lastM mem sz))] [(.ref a1)])) _
          exact k)
      obtain ⟨T45, X45, e45, st45⟩ := getF X43 hx hZ hown (host := "") (Or.inl (hw _ (List.mem_of_getElem? (i := 12) rfl))) Via.refl e43 Fp2 (g := (mkF m 84 #[.val (.ref a1), .val (.int p2), .val (.int p3), .val (.int (lastM mem sz))] [(.ref a1)])) rfl rfl (hb hby d4_84)
      have pre45 : Goes p e below s₁ (entryFrame m #[(.ref a1), (.int p2), (.int p3)] 4) T45 (mkF m 87 #[.val (.ref a1), .val (.int p2), .val (.int p3), .val (.int (lastM mem sz))] [(.ref bp)]) := fun t k => pre44 t (st45 _ k)
      have pre46 : Goes p e below s₁ (entryFrame m #[(.ref a1), (.int p2), (.int p3)] 4) T45 (mkF m 89 #[.val (.ref a1), .val (.int p2), .val (.int p3), .val (.int (lastM mem sz))] [(.ref a1), (.int (lastM mem sz)), (.ref bp)]) := fun t k => pre45 t (by
          refine XS.iloadN X45.here hx rfl (hb hby d4_87) rfl ?_
          show Steps p.tables e below (T45.setTop (mkF m 88 #[.val (.ref a1), .val (.int p2), .val (.int p3), .val (.int (lastM mem sz))] [(.int (lastM mem sz)), (.ref bp)])) _
          refine XS.aloadN X45.here hx rfl (hb hby d4_88) rfl rfl ?_
          show Steps p.tables e below (T45.setTop (mkF m 89 #[.val (.ref a1), .val (.int p2), .val (.int p3), .val (.int (lastM mem sz))] [(.ref a1), (.int (lastM mem sz)), (.ref bp)])) _
          exact k)
      obtain ⟨T47, X47, e47, st47⟩ := getF X45 hx hZ hown (host := "") (Or.inl (hw _ (List.mem_of_getElem? (i := 12) rfl))) Via.refl e45 Fp2 (g := (mkF m 89 #[.val (.ref a1), .val (.int p2), .val (.int p3), .val (.int (lastM mem sz))] [(.ref a1), (.int (lastM mem sz)), (.ref bp)])) rfl rfl (hb hby d4_89)
      have pre47 : Goes p e below s₁ (entryFrame m #[(.ref a1), (.int p2), (.int p3)] 4) T47 (mkF m 92 #[.val (.ref a1), .val (.int p2), .val (.int p3), .val (.int (lastM mem sz))] [(.ref bp), (.int (lastM mem sz)), (.ref bp)]) := fun t k => pre46 t (st47 _ k)
      have pre48 : Goes p e below s₁ (entryFrame m #[(.ref a1), (.int p2), (.int p3)] 4) T47 (mkF m 94 #[.val (.ref a1), .val (.int p2), .val (.int p3), .val (.int (lastM mem sz))] [(.int (pos.getD p2.toNatClampNeg 0)), (.int (lastM mem sz)), (.ref bp)]) := fun t k => pre47 t (by
          refine XS.iloadN X47.here hx rfl (hb hby d4_92) rfl ?_
          show Steps p.tables e below (T47.setTop (mkF m 93 #[.val (.ref a1), .val (.int p2), .val (.int p3), .val (.int (lastM mem sz))] [(.int p2), (.ref bp), (.int (lastM mem sz)), (.ref bp)])) _
          refine X47.iaload hx (j := p2) (v := (.int (pos.getD p2.toNatClampNeg 0))) (by rw [e47]; exact Ap2.1) (State.isArrayOf_alike hZ.alike Ap2.2.1) Ap2.2.2 (r.inb lp2 hp) (r.at lp2 hp) (g := (mkF m 93 #[.val (.ref a1), .val (.int p2), .val (.int p3), .val (.int (lastM mem sz))] [(.int p2), (.ref bp), (.int (lastM mem sz)), (.ref bp)])) rfl rfl (hb hby d4_93) _ ?_
          show Steps p.tables e below (T47.setTop (mkF m 94 #[.val (.ref a1), .val (.int p2), .val (.int p3), .val (.int (lastM mem sz))] [(.int (pos.getD p2.toNatClampNeg 0)), (.int (lastM mem sz)), (.ref bp)])) _
          exact k)
      obtain ⟨T49, h49, X49, e49, W49, st49⟩ := stI X47 hx hZ e47 Ap2 (j := (lastM mem sz)) (r2.inb lp2 hp) (g := (mkF m 94 #[.val (.ref a1), .val (.int p2), .val (.int p3), .val (.int (lastM mem sz))] [(.int (pos.getD p2.toNatClampNeg 0)), (.int (lastM mem sz)), (.ref bp)])) rfl rfl (hb hby d4_94)
      have N49 := Fr.snoc X49 N43 gp
      have pre49 : Goes p e below s₁ (entryFrame m #[(.ref a1), (.int p2), (.int p3)] 4) T49 (mkF m 95 #[.val (.ref a1), .val (.int p2), .val (.int p3), .val (.int (lastM mem sz))] []) := fun t k => pre48 t (st49 _ k)
      have O3 := O2.wp W49
      have z3 : h0.size ≤ h49.size := W49.size ▸ z2
      obtain ⟨E3, Fm3, Fp3, Fz3, ⟨cm3, Am3, lm3⟩, ⟨cp3, Ap3, lp3⟩, -, -, -⟩ := id O3
      have pre50 : Goes p e below s₁ (entryFrame m #[(.ref a1), (.int p2), (.int p3)] 4) T49 (mkF m 96 #[.val (.ref a1), .val (.int p2), .val (.int p3), .val (.int (lastM mem sz))] [(.ref a1)]) := fun t k => pre49 t (by
          refine XS.aloadN X49.here hx rfl (hb hby d4_95) rfl rfl ?_
          show Steps p.tables e below (T49.setTop (mkF m 96 #[.val (.ref a1), .val (.int p2), .val (.int p3), .val (.int (lastM mem sz))] [(.ref a1)])) _
          exact k)
      obtain ⟨T51, X51, e51, st51⟩ := getF X49 hx hZ hown (host := "") (Or.inl (hw _ (List.mem_of_getElem? (i := 12) rfl))) Via.refl e49 Fp3 (g := (mkF m 96 #[.val (.ref a1), .val (.int p2), .val (.int p3), .val (.int (lastM mem sz))] [(.ref a1)])) rfl rfl (hb hby d4_96)
      have pre51 : Goes p e below s₁ (entryFrame m #[(.ref a1), (.int p2), (.int p3)] 4) T51 (mkF m 99 #[.val (.ref a1), .val (.int p2), .val (.int p3), .val (.int (lastM mem sz))] [(.ref bp)]) := fun t k => pre50 t (st51 _ k)
      have pre52 : Goes p e below s₁ (entryFrame m #[(.ref a1), (.int p2), (.int p3)] 4) T51 (mkF m 101 #[.val (.ref a1), .val (.int p2), .val (.int p3), .val (.int (lastM mem sz))] [(.int (-1 : Int32)), (.int p2), (.ref bp)]) := fun t k => pre51 t (by
          refine XS.iloadN X51.here hx rfl (hb hby d4_99) rfl ?_
          show Steps p.tables e below (T51.setTop (mkF m 100 #[.val (.ref a1), .val (.int p2), .val (.int p3), .val (.int (lastM mem sz))] [(.int p2), (.ref bp)])) _
          refine XS.iconst X51.here hx rfl (hb hby d4_100) ?_
          show Steps p.tables e below (T51.setTop (mkF m 101 #[.val (.ref a1), .val (.int p2), .val (.int p3), .val (.int (lastM mem sz))] [(.int (-1 : Int32)), (.int p2), (.ref bp)])) _
          exact k)
      obtain ⟨T53, h53, X53, e53, W53, st53⟩ := stI X51 hx hZ e51 Ap3 (j := p2) (r.inb lp3 (by simp [hp])) (g := (mkF m 101 #[.val (.ref a1), .val (.int p2), .val (.int p3), .val (.int (lastM mem sz))] [(.int (-1 : Int32)), (.int p2), (.ref bp)])) rfl rfl (hb hby d4_101)
      have N53 := Fr.snoc X53 N49 gp
      have pre53 : Goes p e below s₁ (entryFrame m #[(.ref a1), (.int p2), (.int p3)] 4) T53 (mkF m 102 #[.val (.ref a1), .val (.int p2), .val (.int p3), .val (.int (lastM mem sz))] []) := fun t k => pre52 t (st53 _ k)
      have O4 := O3.wp W53
      have z4 : h0.size ≤ h53.size := W53.size ▸ z3
      obtain ⟨fs, hr, hrun, hended, hW, hsame⟩ := X53.leave (v := none) (fun _ => rfl)
      refine ⟨_, _, pre53 _ (X53.returnOut hx Bd.returns (hb hby d4_102) hr), hrun, hended, _, _, rfl, ?_, ⟨_, rfl⟩, hW, hsame.mono (by decide) (by decide)⟩
      show Qs Z a1 p2 p3 bm bp pos mem sz h0 n0 _ T53.heap _
      rw [e53]
      exact ⟨rfl, N53, z4, by simp only [setP, setM, setZ, he, hc, if_true, if_false]; exact O4⟩
  · skip
    have pre54 : Goes p e below s₁ (entryFrame m #[(.ref a1), (.int p2), (.int p3)] 4) s₁ (mkF m 6 #[.val (.ref a1), .val (.int p2), .val (.int p3), .unset] [(.int p2), (.ref a1)]) := fun t k => pre28 t (by
        refine XS.ifNo X0.here hx rfl (hb hby d4_1) rfl ((if0 _ _).trans (feq he).1) ?_
        show Steps p.tables e below (s₁.setTop (mkF m 4 #[.val (.ref a1), .val (.int p2), .val (.int p3), .unset] [])) _
        refine XS.aloadN X0.here hx rfl (hb hby d4_4) rfl rfl ?_
        show Steps p.tables e below (s₁.setTop (mkF m 5 #[.val (.ref a1), .val (.int p2), .val (.int p3), .unset] [(.ref a1)])) _
        refine XS.iloadN X0.here hx rfl (hb hby d4_5) rfl ?_
        show Steps p.tables e below (s₁.setTop (mkF m 6 #[.val (.ref a1), .val (.int p2), .val (.int p3), .unset] [(.int p2), (.ref a1)])) _
        exact k)
    obtain ⟨cq55, kq55, q55a, q55b, q55c⟩ := isOf hZ e0 E0
    obtain ⟨_, _, ⟨T55, L55, k55, n55⟩, -, X55, ⟨Lc55, hQ55, l55, y55, z55⟩, st55⟩ := X0.virtualBack hx (y := (⟨"com/example/omphalos/omphalos/selfstab/EnabledNodes", "contains", "(I)Z"⟩ : MethodName)) (z := (⟨"com/example/omphalos/omphalos/selfstab/EnabledNodes", "contains", "(I)Z"⟩ : MethodName)) hown (mvT hZ (hw _ (List.mem_of_getElem? (i := 23) rfl))) (mvT hZ (hw _ (List.mem_of_getElem? (i := 24) rfl))) (notFace_of_selects (args := #[]) (mvT hZ (hw _ (List.mem_of_getElem? (i := 26) rfl)))) (mvT hZ (hw _ (List.mem_of_getElem? (i := 26) rfl))) (mvT hZ (hw _ (List.mem_of_getElem? (i := 25) rfl))) (by decide) (backOf (W := 0) (rmc l Z a0 hw [] a1 p2 bm bp pos mem sz h0 n0 Z0 O0 hp r) hZ (hw _ (List.mem_of_getElem? (i := 27) rfl)) (hw _ (List.mem_of_getElem? (i := 2) rfl)) (by decide) (by decide)) q55a q55c (g := (mkF m 6 #[.val (.ref a1), .val (.int p2), .val (.int p3), .unset] [(.int p2), (.ref a1)])) rfl (by rw [hml]; rfl) (Steps.refl _) (argsL := [(.int p2)]) (rest := []) (lenOf pd_1 rfl) rfl (by show 2 * 0 + _ ≤ _; exact Nat.le_of_eq rfl) (hb hby d4_6) (fun _ _ => ⟨rfl, e0, (by decide : 0 + 0 ≤ _), (by decide : 0 + 0 ≤ _)⟩)
    dsimp only [Pt.U, Pt.locs, Pt.cells, Pt.slots] at X55 l55 y55 z55 st55 hQ55
    subst l55 y55 z55
    obtain ⟨rfl, N55q, eh55⟩ := hQ55
    have N55 := Fr.app N0 N55q
    have pre55 : Goes p e below s₁ (entryFrame m #[(.ref a1), (.int p2), (.int p3)] 4) T55 (mkF m 9 #[.val (.ref a1), .val (.int p2), .val (.int p3), .unset] [(.int (fC pos p2))]) := fun t k => pre54 t (st55.trans k)
    by_cases hc : (fC pos p2) = (0 : Int32)
    · skip
      have r1 : inR sz := by simpa only [Safe, he, hc, if_true, if_false] using sf
      have pre56 : Goes p e below s₁ (entryFrame m #[(.ref a1), (.int p2), (.int p3)] 4) T55 (mkF m 13 #[.val (.ref a1), .val (.int p2), .val (.int p3), .unset] [(.ref a1)]) := fun t k => pre55 t (by
          refine XS.ifNo X55.here hx rfl (hb hby d4_9) rfl ((if0 _ _).trans (teq hc).2) ?_
          show Steps p.tables e below (T55.setTop (mkF m 12 #[.val (.ref a1), .val (.int p2), .val (.int p3), .unset] [])) _
          refine XS.aloadN X55.here hx rfl (hb hby d4_12) rfl rfl ?_
          show Steps p.tables e below (T55.setTop (mkF m 13 #[.val (.ref a1), .val (.int p2), .val (.int p3), .unset] [(.ref a1)])) _
          exact k)
      obtain ⟨T57, X57, e57, st57⟩ := getF X55 hx hZ hown (host := "") (Or.inl (hw _ (List.mem_of_getElem? (i := 12) rfl))) Via.refl eh55 Fp0 (g := (mkF m 13 #[.val (.ref a1), .val (.int p2), .val (.int p3), .unset] [(.ref a1)])) rfl rfl (hb hby d4_13)
      have pre57 : Goes p e below s₁ (entryFrame m #[(.ref a1), (.int p2), (.int p3)] 4) T57 (mkF m 16 #[.val (.ref a1), .val (.int p2), .val (.int p3), .unset] [(.ref bp)]) := fun t k => pre56 t (st57 _ k)
      have pre58 : Goes p e below s₁ (entryFrame m #[(.ref a1), (.int p2), (.int p3)] 4) T57 (mkF m 18 #[.val (.ref a1), .val (.int p2), .val (.int p3), .unset] [(.ref a1), (.int p2), (.ref bp)]) := fun t k => pre57 t (by
          refine XS.iloadN X57.here hx rfl (hb hby d4_16) rfl ?_
          show Steps p.tables e below (T57.setTop (mkF m 17 #[.val (.ref a1), .val (.int p2), .val (.int p3), .unset] [(.int p2), (.ref bp)])) _
          refine XS.aloadN X57.here hx rfl (hb hby d4_17) rfl rfl ?_
          show Steps p.tables e below (T57.setTop (mkF m 18 #[.val (.ref a1), .val (.int p2), .val (.int p3), .unset] [(.ref a1), (.int p2), (.ref bp)])) _
          exact k)
      obtain ⟨T59, X59, e59, st59⟩ := getF X57 hx hZ hown (host := "") (Or.inl (hw _ (List.mem_of_getElem? (i := 33) rfl))) Via.refl e57 Fz0 (g := (mkF m 18 #[.val (.ref a1), .val (.int p2), .val (.int p3), .unset] [(.ref a1), (.int p2), (.ref bp)])) rfl rfl (hb hby d4_18)
      have pre59 : Goes p e below s₁ (entryFrame m #[(.ref a1), (.int p2), (.int p3)] 4) T59 (mkF m 21 #[.val (.ref a1), .val (.int p2), .val (.int p3), .unset] [(.int sz), (.int p2), (.ref bp)]) := fun t k => pre58 t (st59 _ k)
      obtain ⟨T60, h60, X60, e60, W60, st60⟩ := stI X59 hx hZ e59 Ap0 (j := p2) (r.inb lp0 hp) (g := (mkF m 21 #[.val (.ref a1), .val (.int p2), .val (.int p3), .unset] [(.int sz), (.int p2), (.ref bp)])) rfl rfl (hb hby d4_21)
      have N60 := Fr.snoc X60 N55 gp
      have pre60 : Goes p e below s₁ (entryFrame m #[(.ref a1), (.int p2), (.int p3)] 4) T60 (mkF m 22 #[.val (.ref a1), .val (.int p2), .val (.int p3), .unset] []) := fun t k => pre59 t (st60 _ k)
      have O1 := O0.wp W60
      have z1 : h0.size ≤ h60.size := Nat.le_of_eq W60.size.symm
      obtain ⟨E1, Fm1, Fp1, Fz1, ⟨cm1, Am1, lm1⟩, ⟨cp1, Ap1, lp1⟩, -, -, -⟩ := id O1
      have pre61 : Goes p e below s₁ (entryFrame m #[(.ref a1), (.int p2), (.int p3)] 4) T60 (mkF m 23 #[.val (.ref a1), .val (.int p2), .val (.int p3), .unset] [(.ref a1)]) := fun t k => pre60 t (by
          refine XS.aloadN X60.here hx rfl (hb hby d4_22) rfl rfl ?_
          show Steps p.tables e below (T60.setTop (mkF m 23 #[.val (.ref a1), .val (.int p2), .val (.int p3), .unset] [(.ref a1)])) _
          exact k)
      obtain ⟨T62, X62, e62, st62⟩ := getF X60 hx hZ hown (host := "") (Or.inl (hw _ (List.mem_of_getElem? (i := 10) rfl))) Via.refl e60 Fm1 (g := (mkF m 23 #[.val (.ref a1), .val (.int p2), .val (.int p3), .unset] [(.ref a1)])) rfl rfl (hb hby d4_23)
      have pre62 : Goes p e below s₁ (entryFrame m #[(.ref a1), (.int p2), (.int p3)] 4) T62 (mkF m 26 #[.val (.ref a1), .val (.int p2), .val (.int p3), .unset] [(.ref bm)]) := fun t k => pre61 t (st62 _ k)
      have pre63 : Goes p e below s₁ (entryFrame m #[(.ref a1), (.int p2), (.int p3)] 4) T62 (mkF m 28 #[.val (.ref a1), .val (.int p2), .val (.int p3), .unset] [(.ref a1), (.ref a1), (.ref bm)]) := fun t k => pre62 t (by
          refine XS.aloadN X62.here hx rfl (hb hby d4_26) rfl rfl ?_
          show Steps p.tables e below (T62.setTop (mkF m 27 #[.val (.ref a1), .val (.int p2), .val (.int p3), .unset] [(.ref a1), (.ref bm)])) _
          refine XS.dup X62.here hx rfl (hb hby d4_27) rfl rfl ?_
          show Steps p.tables e below (T62.setTop (mkF m 28 #[.val (.ref a1), .val (.int p2), .val (.int p3), .unset] [(.ref a1), (.ref a1), (.ref bm)])) _
          exact k)
      obtain ⟨T64, X64, e64, st64⟩ := getF X62 hx hZ hown (host := "") (Or.inl (hw _ (List.mem_of_getElem? (i := 33) rfl))) Via.refl e62 Fz1 (g := (mkF m 28 #[.val (.ref a1), .val (.int p2), .val (.int p3), .unset] [(.ref a1), (.ref a1), (.ref bm)])) rfl rfl (hb hby d4_28)
      have pre64 : Goes p e below s₁ (entryFrame m #[(.ref a1), (.int p2), (.int p3)] 4) T64 (mkF m 31 #[.val (.ref a1), .val (.int p2), .val (.int p3), .unset] [(.int sz), (.ref a1), (.ref bm)]) := fun t k => pre63 t (st64 _ k)
      have pre65 : Goes p e below s₁ (entryFrame m #[(.ref a1), (.int p2), (.int p3)] 4) T64 (mkF m 34 #[.val (.ref a1), .val (.int p2), .val (.int p3), .unset] [(.int (sz + (1 : Int32))), (.ref a1), (.int sz), (.ref bm)]) := fun t k => pre64 t (by
          refine XS.dupX1 X64.here hx rfl (hb hby d4_31) rfl rfl rfl ?_
          show Steps p.tables e below (T64.setTop (mkF m 32 #[.val (.ref a1), .val (.int p2), .val (.int p3), .unset] [(.int sz), (.ref a1), (.int sz), (.ref bm)])) _
          refine XS.iconst X64.here hx rfl (hb hby d4_32) ?_
          show Steps p.tables e below (T64.setTop (mkF m 33 #[.val (.ref a1), .val (.int p2), .val (.int p3), .unset] [(.int (1 : Int32)), (.int sz), (.ref a1), (.int sz), (.ref bm)])) _
          refine XS.iadd X64.here hx rfl (hb hby d4_33) rfl ?_
          show Steps p.tables e below (T64.setTop (mkF m 34 #[.val (.ref a1), .val (.int p2), .val (.int p3), .unset] [(.int (sz + (1 : Int32))), (.ref a1), (.int sz), (.ref bm)])) _
          exact k)
      obtain ⟨T66, h66, X66, e66, W66, st66⟩ := putF X64 hx hZ hown (host := "") (Or.inl (hw _ (List.mem_of_getElem? (i := 33) rfl))) Via.refl e64 Fz1 E1 (Or.inl (hw _ (List.mem_of_getElem? (i := 34) rfl))) (hw _ (List.mem_of_getElem? (i := 1) rfl)) (ty := .int) (by decide) rfl rfl (g := (mkF m 34 #[.val (.ref a1), .val (.int p2), .val (.int p3), .unset] [(.int (sz + (1 : Int32))), (.ref a1), (.int sz), (.ref bm)])) rfl rfl (hb hby d4_34)
      have N66 := Fr.snoc X66 N60 g1
      have pre66 : Goes p e below s₁ (entryFrame m #[(.ref a1), (.int p2), (.int p3)] 4) T66 (mkF m 37 #[.val (.ref a1), .val (.int p2), .val (.int p3), .unset] [(.int sz), (.ref bm)]) := fun t k => pre65 t (st66 _ k)
      have O2 := O1.ws hw W66
      have z2 : h0.size ≤ h66.size := W66.size ▸ z1
      obtain ⟨E2, Fm2, Fp2, Fz2, ⟨cm2, Am2, lm2⟩, ⟨cp2, Ap2, lp2⟩, -, -, -⟩ := id O2
      have pre67 : Goes p e below s₁ (entryFrame m #[(.ref a1), (.int p2), (.int p3)] 4) T66 (mkF m 38 #[.val (.ref a1), .val (.int p2), .val (.int p3), .unset] [(.int p2), (.int sz), (.ref bm)]) := fun t k => pre66 t (by
          refine XS.iloadN X66.here hx rfl (hb hby d4_37) rfl ?_
          show Steps p.tables e below (T66.setTop (mkF m 38 #[.val (.ref a1), .val (.int p2), .val (.int p3), .unset] [(.int p2), (.int sz), (.ref bm)])) _
          exact k)
      obtain ⟨T68, h68, X68, e68, W68, st68⟩ := stI X66 hx hZ e66 Am2 (j := sz) (r1.inb lm2 hm) (g := (mkF m 38 #[.val (.ref a1), .val (.int p2), .val (.int p3), .unset] [(.int p2), (.int sz), (.ref bm)])) rfl rfl (hb hby d4_38)
      have N68 := Fr.snoc X68 N66 gm
      have pre68 : Goes p e below s₁ (entryFrame m #[(.ref a1), (.int p2), (.int p3)] 4) T68 (mkF m 39 #[.val (.ref a1), .val (.int p2), .val (.int p3), .unset] []) := fun t k => pre67 t (st68 _ k)
      have O3 := O2.wm W68
      have z3 : h0.size ≤ h68.size := W68.size ▸ z2
      have pre69 : Goes p e below s₁ (entryFrame m #[(.ref a1), (.int p2), (.int p3)] 4) T68 (mkF m 102 #[.val (.ref a1), .val (.int p2), .val (.int p3), .unset] []) := fun t k => pre68 t (by
          refine XS.goto X68.here hx rfl (pc0 := 39) (pc' := 102) rfl (hb hby d4_39) (by decide) (by decide) ?_
          show Steps p.tables e below (T68.setTop (mkF m 102 #[.val (.ref a1), .val (.int p2), .val (.int p3), .unset] [])) _
          exact k)
      obtain ⟨fs, hr, hrun, hended, hW, hsame⟩ := X68.leave (v := none) (fun _ => rfl)
      refine ⟨_, _, pre69 _ (X68.returnOut hx Bd.returns (hb hby d4_102) hr), hrun, hended, _, _, rfl, ?_, ⟨_, rfl⟩, hW, hsame.mono (by decide) (by decide)⟩
      show Qs Z a1 p2 p3 bm bp pos mem sz h0 n0 _ T68.heap _
      rw [e68]
      exact ⟨rfl, N68, z3, by simp only [setP, setM, setZ, he, hc, if_true, if_false]; exact O3⟩
    · skip
      have pre70 : Goes p e below s₁ (entryFrame m #[(.ref a1), (.int p2), (.int p3)] 4) T55 (mkF m 102 #[.val (.ref a1), .val (.int p2), .val (.int p3), .unset] []) := fun t k => pre55 t (by
          refine XS.ifYes X55.here hx rfl (pc0 := 9) (pc' := 42) rfl (hb hby d4_9) rfl ((if0 _ _).trans (feq hc).2) (by decide) (by decide) ?_
          show Steps p.tables e below (T55.setTop (mkF m 42 #[.val (.ref a1), .val (.int p2), .val (.int p3), .unset] [])) _
          refine XS.iloadN X55.here hx rfl (hb hby d4_42) rfl ?_
          show Steps p.tables e below (T55.setTop (mkF m 43 #[.val (.ref a1), .val (.int p2), .val (.int p3), .unset] [(.int p3)])) _
          refine XS.ifYes X55.here hx rfl (pc0 := 43) (pc' := 102) rfl (hb hby d4_43) rfl ((if0 _ _).trans (feq he).2) (by decide) (by decide) ?_
          show Steps p.tables e below (T55.setTop (mkF m 102 #[.val (.ref a1), .val (.int p2), .val (.int p3), .unset] [])) _
          exact k)
      obtain ⟨fs, hr, hrun, hended, hW, hsame⟩ := X55.leave (v := none) (fun _ => rfl)
      refine ⟨_, _, pre70 _ (X55.returnOut hx Bd.returns (hb hby d4_102) hr), hrun, hended, _, _, rfl, ?_, ⟨_, rfl⟩, hW, hsame.mono (by decide) (by decide)⟩
      show Qs Z a1 p2 p3 bm bp pos mem sz h0 n0 _ T55.heap _
      rw [eh55]
      exact ⟨rfl, N55, Nat.le_refl _, by simp only [setP, setM, setZ, he, hc, if_true, if_false]; exact O0⟩
def stA (m x : Int32) : Int32 := if (x &&& (4 : Int32)) = 0 then m &&& (((1 : Int32) <<< ((x &&& (3 : Int32)) &&& 31)) ^^^ (-1 : Int32)) else m ||| ((1 : Int32) <<< ((x &&& (3 : Int32)) &&& 31))
def Qt (Z : State) (p1 p2 : Int32) (h0 : Heap) (n0 : Nat) (v : Option Value) (h : Heap) (L : List Loc) : Prop := v = some (.int (stA p1 p2)) ∧ Fr n0 L ∧ h = h0
theorem pn_6 : plainName "com/example/omphalos/omphalos/selfstab/EnabledNodesContainsPinLaw" = true := by first | (simp [plainName, overriddenIn]; done) | decide +kernel
theorem ef_6 (m : MethodId) (p1 : Int32) (p2 : Int32) : entryFrame m #[(.int p1), (.int p2)] 3 = mkF m 0 #[.val (.int p1), .val (.int p2), .unset] [] := by first | (simp [entryFrame, mkF, argsToLocals, Value.category]; done) | rfl
set_option maxRecDepth 65536 in
set_option maxHeartbeats 40000000 in
theorem rmt (l : Launch) (Z : State) (a0 : Array Value) (hw : ∀ d ∈ tables_1, d.before a0 Z = true) (ws : List Jvm.Cond) (p1 : Int32) (p2 : Int32)  (h0 : Heap) (n0 : Nat) (Z0 : n0 ≤ h0.size)  :
    MetFree l (⟨"com/example/omphalos/omphalos/selfstab/EnabledNodesContainsPinLaw", "step", "(II)I"⟩ : MethodName) (head1 (Jvm.Cond.code (⟨"com/example/omphalos/omphalos/selfstab/EnabledNodesContainsPinLaw", "step", "(II)I"⟩ : MethodName) method_3_code 3 (some .int) :: ws) ({ frames := 0, cells := 0, slots := 0, locals := 0 } : Room)) (fun a U => a = #[(.int p1), (.int p2)] ∧ Z.Warmed39 U.vm ∧ U.heap = h0) (fun _ _ _ _ _ => True) (fun _ U o U' => ∃ v L, o = .returned v ∧ Qt Z p1 p2 h0 n0 v U'.heap L ∧ FrameEnd U o U' L ({ frames := 0, cells := 0, slots := 0, locals := 0 } : Room).cells ({ frames := 0, cells := 0, slots := 0, locals := 0 } : Room).slots) := by
  refine MetFree.of_bodySF (plainFor_of_name pn_6) hisR ?_
  intro p e s m args below meth c s₁ Bd hml0 hP hK
  obtain ⟨rfl, hZ, hh⟩ := hP
  have hx := Bd.exec
  have hby := Bd.bytes
  have hml : c.maxLocals = 3 := hml0
  have hown : s.vm.findClass "com/example/omphalos/omphalos/selfstab/EnabledNodesContainsPinLaw" = some m.cls := findClass_of_methodNamed Bd.named
  have hnm := (name_of_methodNamed Bd.named Bd.method).1
  have X0 : Stand p l e ({ frames := 0, cells := 0, slots := 0, locals := 0 } : Room) s m #[(.int p1), (.int p2)] below meth c s₁ [] 0 0 := Stand.of_body Bd
  have e0 : s₁.heap = h0 := by rw [← hh, Bd.state]; rfl
  have N0 := Fr.nil n0
  have pre0 : Goes p e below s₁ (entryFrame m #[(.int p1), (.int p2)] 3) s₁ (mkF m 0 #[.val (.int p1), .val (.int p2), .unset] []) := fun t k => castTop (ef_6 m p1 p2) k
  have pre71 : Goes p e below s₁ (entryFrame m #[(.int p1), (.int p2)] 3) s₁ (mkF m 9 #[.val (.int p1), .val (.int p2), .val (.int ((1 : Int32) <<< ((p2 &&& (3 : Int32)) &&& 31)))] [(.int (p2 &&& (4 : Int32)))]) := fun t k => pre0 t (by
      refine XS.iconst X0.here hx rfl (hb hby d6_0) ?_
      show Steps p.tables e below (s₁.setTop (mkF m 1 #[.val (.int p1), .val (.int p2), .unset] [(.int (1 : Int32))])) _
      refine XS.iloadN X0.here hx rfl (hb hby d6_1) rfl ?_
      show Steps p.tables e below (s₁.setTop (mkF m 2 #[.val (.int p1), .val (.int p2), .unset] [(.int p2), (.int (1 : Int32))])) _
      refine XS.iconst X0.here hx rfl (hb hby d6_2) ?_
      show Steps p.tables e below (s₁.setTop (mkF m 3 #[.val (.int p1), .val (.int p2), .unset] [(.int (3 : Int32)), (.int p2), (.int (1 : Int32))])) _
      refine XS.iand X0.here hx rfl (hb hby d6_3) rfl ?_
      show Steps p.tables e below (s₁.setTop (mkF m 4 #[.val (.int p1), .val (.int p2), .unset] [(.int (p2 &&& (3 : Int32))), (.int (1 : Int32))])) _
      refine XS.ishl X0.here hx rfl (hb hby d6_4) rfl ?_
      show Steps p.tables e below (s₁.setTop (mkF m 5 #[.val (.int p1), .val (.int p2), .unset] [(.int ((1 : Int32) <<< ((p2 &&& (3 : Int32)) &&& 31)))])) _
      refine XS.istoreN X0.here hx rfl (hb hby d6_5) rfl (l' := #[.val (.int p1), .val (.int p2), .val (.int ((1 : Int32) <<< ((p2 &&& (3 : Int32)) &&& 31)))]) rfl ?_
      show Steps p.tables e below (s₁.setTop (mkF m 6 #[.val (.int p1), .val (.int p2), .val (.int ((1 : Int32) <<< ((p2 &&& (3 : Int32)) &&& 31)))] [])) _
      refine XS.iloadN X0.here hx rfl (hb hby d6_6) rfl ?_
      show Steps p.tables e below (s₁.setTop (mkF m 7 #[.val (.int p1), .val (.int p2), .val (.int ((1 : Int32) <<< ((p2 &&& (3 : Int32)) &&& 31)))] [(.int p2)])) _
      refine XS.iconst X0.here hx rfl (hb hby d6_7) ?_
      show Steps p.tables e below (s₁.setTop (mkF m 8 #[.val (.int p1), .val (.int p2), .val (.int ((1 : Int32) <<< ((p2 &&& (3 : Int32)) &&& 31)))] [(.int (4 : Int32)), (.int p2)])) _
      refine XS.iand X0.here hx rfl (hb hby d6_8) rfl ?_
      show Steps p.tables e below (s₁.setTop (mkF m 9 #[.val (.int p1), .val (.int p2), .val (.int ((1 : Int32) <<< ((p2 &&& (3 : Int32)) &&& 31)))] [(.int (p2 &&& (4 : Int32)))])) _
      exact k)
  by_cases hc72 : (p2 &&& (4 : Int32)) = (0 : Int32)
  · skip
    have pre73 : Goes p e below s₁ (entryFrame m #[(.int p1), (.int p2)] 3) s₁ (mkF m 21 #[.val (.int p1), .val (.int p2), .val (.int ((1 : Int32) <<< ((p2 &&& (3 : Int32)) &&& 31)))] [(.int (p1 &&& (((1 : Int32) <<< ((p2 &&& (3 : Int32)) &&& 31)) ^^^ (-1 : Int32))))]) := fun t k => pre71 t (by
        refine XS.ifYes X0.here hx rfl (pc0 := 9) (pc' := 16) rfl (hb hby d6_9) rfl ((if0 _ _).trans (teq hc72).1) (by decide) (by decide) ?_
        show Steps p.tables e below (s₁.setTop (mkF m 16 #[.val (.int p1), .val (.int p2), .val (.int ((1 : Int32) <<< ((p2 &&& (3 : Int32)) &&& 31)))] [])) _
        refine XS.iloadN X0.here hx rfl (hb hby d6_16) rfl ?_
        show Steps p.tables e below (s₁.setTop (mkF m 17 #[.val (.int p1), .val (.int p2), .val (.int ((1 : Int32) <<< ((p2 &&& (3 : Int32)) &&& 31)))] [(.int p1)])) _
        refine XS.iloadN X0.here hx rfl (hb hby d6_17) rfl ?_
        show Steps p.tables e below (s₁.setTop (mkF m 18 #[.val (.int p1), .val (.int p2), .val (.int ((1 : Int32) <<< ((p2 &&& (3 : Int32)) &&& 31)))] [(.int ((1 : Int32) <<< ((p2 &&& (3 : Int32)) &&& 31))), (.int p1)])) _
        refine XS.iconst X0.here hx rfl (hb hby d6_18) ?_
        show Steps p.tables e below (s₁.setTop (mkF m 19 #[.val (.int p1), .val (.int p2), .val (.int ((1 : Int32) <<< ((p2 &&& (3 : Int32)) &&& 31)))] [(.int (-1 : Int32)), (.int ((1 : Int32) <<< ((p2 &&& (3 : Int32)) &&& 31))), (.int p1)])) _
        refine XS.ixor X0.here hx rfl (hb hby d6_19) rfl ?_
        show Steps p.tables e below (s₁.setTop (mkF m 20 #[.val (.int p1), .val (.int p2), .val (.int ((1 : Int32) <<< ((p2 &&& (3 : Int32)) &&& 31)))] [(.int (((1 : Int32) <<< ((p2 &&& (3 : Int32)) &&& 31)) ^^^ (-1 : Int32))), (.int p1)])) _
        refine XS.iand X0.here hx rfl (hb hby d6_20) rfl ?_
        show Steps p.tables e below (s₁.setTop (mkF m 21 #[.val (.int p1), .val (.int p2), .val (.int ((1 : Int32) <<< ((p2 &&& (3 : Int32)) &&& 31)))] [(.int (p1 &&& (((1 : Int32) <<< ((p2 &&& (3 : Int32)) &&& 31)) ^^^ (-1 : Int32))))])) _
        exact k)
    obtain ⟨fs, hr, hrun, hended, hW, hsame⟩ := X0.leave (v := some (.int (p1 &&& (((1 : Int32) <<< ((p2 &&& (3 : Int32)) &&& 31)) ^^^ (-1 : Int32))))) (fun h => by rw [Bd.returns] at h; cases h)
    refine ⟨_, _, pre73 _ (retI X0 hx Bd.returns (hb hby d6_21) hr), hrun, hended, _, _, rfl, ?_, ⟨_, rfl⟩, hW, hsame.mono (by decide) (by decide)⟩
    show Qt Z p1 p2 h0 n0 _ s₁.heap _
    rw [e0]
    exact ⟨by simp only [stA, hc72, if_true, if_false], N0, rfl⟩
  · skip
    have pre74 : Goes p e below s₁ (entryFrame m #[(.int p1), (.int p2)] 3) s₁ (mkF m 15 #[.val (.int p1), .val (.int p2), .val (.int ((1 : Int32) <<< ((p2 &&& (3 : Int32)) &&& 31)))] [(.int (p1 ||| ((1 : Int32) <<< ((p2 &&& (3 : Int32)) &&& 31))))]) := fun t k => pre71 t (by
        refine XS.ifNo X0.here hx rfl (hb hby d6_9) rfl ((if0 _ _).trans (feq hc72).1) ?_
        show Steps p.tables e below (s₁.setTop (mkF m 12 #[.val (.int p1), .val (.int p2), .val (.int ((1 : Int32) <<< ((p2 &&& (3 : Int32)) &&& 31)))] [])) _
        refine XS.iloadN X0.here hx rfl (hb hby d6_12) rfl ?_
        show Steps p.tables e below (s₁.setTop (mkF m 13 #[.val (.int p1), .val (.int p2), .val (.int ((1 : Int32) <<< ((p2 &&& (3 : Int32)) &&& 31)))] [(.int p1)])) _
        refine XS.iloadN X0.here hx rfl (hb hby d6_13) rfl ?_
        show Steps p.tables e below (s₁.setTop (mkF m 14 #[.val (.int p1), .val (.int p2), .val (.int ((1 : Int32) <<< ((p2 &&& (3 : Int32)) &&& 31)))] [(.int ((1 : Int32) <<< ((p2 &&& (3 : Int32)) &&& 31))), (.int p1)])) _
        refine XS.ior X0.here hx rfl (hb hby d6_14) rfl ?_
        show Steps p.tables e below (s₁.setTop (mkF m 15 #[.val (.int p1), .val (.int p2), .val (.int ((1 : Int32) <<< ((p2 &&& (3 : Int32)) &&& 31)))] [(.int (p1 ||| ((1 : Int32) <<< ((p2 &&& (3 : Int32)) &&& 31))))])) _
        exact k)
    obtain ⟨fs, hr, hrun, hended, hW, hsame⟩ := X0.leave (v := some (.int (p1 ||| ((1 : Int32) <<< ((p2 &&& (3 : Int32)) &&& 31))))) (fun h => by rw [Bd.returns] at h; cases h)
    refine ⟨_, _, pre74 _ (retI X0 hx Bd.returns (hb hby d6_15) hr), hrun, hended, _, _, rfl, ?_, ⟨_, rfl⟩, hW, hsame.mono (by decide) (by decide)⟩
    show Qt Z p1 p2 h0 n0 _ s₁.heap _
    rw [e0]
    exact ⟨by simp only [stA, hc72, if_true, if_false], N0, rfl⟩
def enA (x : Int32) : Int32 := if (x &&& (4 : Int32)) = 0 then 0 else 1
def chk : Nat → List Int32 → List Int32 → Int32 → Int32 → Bool
  | 0, pos, _, _, m => decide (fC pos 0 = if (m &&& 1) = 0 then 0 else 1) && decide (fC pos 1 = if (m &&& 2) = 0 then 0 else 1) && decide (fC pos 2 = if (m &&& 4) = 0 then 0 else 1) && decide (fC pos 3 = if (m &&& 8) = 0 then 0 else 1)
  | d + 1, pos, mem, sz, m => (List.range 8).all fun n => let x := Int32.ofNat n
    decide (Safe pos mem sz (x &&& 3) (enA x)) && chk d (setP pos mem sz (x &&& 3) (enA x)) (setM pos mem sz (x &&& 3) (enA x)) (setZ pos mem sz (x &&& 3) (enA x)) (stA m x)
theorem own_chk : chk 4 [-1, -1, -1, -1] [0, 0, 0, 0] 0 0 = true := by decide +kernel
theorem own_n3 : ∀ n, n < 8 → True := fun _ _ => trivial
theorem own_7 (x : Int32) : ∃ n, n < 8 ∧ (x &&& 7) = Int32.ofNat n := by
  have h := c_mask x 7 3 (by decide) (by decide)
  have h0 : ¬ (x &&& 7) < 0 := fun q => by
    have := Int32.lt_iff_toInt_lt.mp q
    rw [show (0 : Int32).toInt = 0 from rfl] at this
    omega
  have hb := back32 h0
  refine ⟨(x &&& 7).toNatClampNeg, ?_, hb.1.symm⟩
  have h3 : (x &&& 7).toNatClampNeg = (x &&& 7).toInt.toNat := rfl
  omega
theorem own_and3 (x : Int32) : (x &&& 7) &&& 3 = x &&& 3 := by rw [Int32.and_assoc]; rfl
theorem own_and4 (x : Int32) : (x &&& 7) &&& 4 = x &&& 4 := by rw [Int32.and_assoc]; rfl
theorem own_step {d : Nat} {pos mem : List Int32} {sz m : Int32} (h : chk (d + 1) pos mem sz m = true) (x : Int32) :
    Safe pos mem sz (x &&& 3) (enA x) ∧ chk d (setP pos mem sz (x &&& 3) (enA x)) (setM pos mem sz (x &&& 3) (enA x)) (setZ pos mem sz (x &&& 3) (enA x)) (stA m x) = true := by
  obtain ⟨n, hn, e⟩ := own_7 x
  have q := List.all_eq_true.mp h n (List.mem_range.mpr hn)
  rw [← e] at q
  simp only [Bool.and_eq_true, decide_eq_true_eq] at q
  have e1 : enA (x &&& 7) = enA x := by unfold enA; rw [own_and4]
  have e2 : stA m (x &&& 7) = stA m x := by unfold stA; rw [own_and4, own_and3]
  rw [e1, e2, own_and3] at q
  exact q
theorem own_r (x : Int32) : inR (x &&& 3) := by
  have h := c_mask x 3 2 (by decide) (by decide)
  have h3 : (x &&& 3).toNatClampNeg = (x &&& 3).toInt.toNat := rfl
  refine ⟨fun q => ?_, by omega⟩
  have := Int32.lt_iff_toInt_lt.mp q
  rw [show (0 : Int32).toInt = 0 from rfl] at this
  omega
def Q0 (Z : State) (p1 p2 p3 p4 : Int32) (h0 : Heap) (n0 : Nat) (v : Option Value) (h : Heap) (L : List Loc) : Prop := v = some (.int (1 : Int32)) ∧ Fr n0 L
theorem pn_0 : plainName "com/example/omphalos/omphalos/selfstab/EnabledNodesContainsPinLaw" = true := by first | (simp [plainName, overriddenIn]; done) | decide +kernel
theorem ef_0 (m : MethodId) (p1 : Int32) (p2 : Int32) (p3 : Int32) (p4 : Int32) : entryFrame m #[(.int p1), (.int p2), (.int p3), (.int p4)] maxLocals = mkF m 0 #[.val (.int p1), .val (.int p2), .val (.int p3), .val (.int p4), .unset, .unset, .unset, .unset, .unset, .unset] [] := by first | (simp [entryFrame, mkF, argsToLocals, Value.category, maxLocals]; done) | rfl
set_option maxRecDepth 65536 in
set_option maxHeartbeats 40000000 in
theorem rm0 (l : Launch) (Z : State) (a0 : Array Value) (hw : ∀ d ∈ tables_1, d.before a0 Z = true) (ws : List Jvm.Cond) (p1 : Int32) (p2 : Int32) (p3 : Int32) (p4 : Int32)  (h0 : Heap) (n0 : Nat) (Z0 : n0 ≤ h0.size)  :
    MetFree l x (head1 (Jvm.Cond.code x code maxLocals ret :: ws) room_1) (fun a U => a = #[(.int p1), (.int p2), (.int p3), (.int p4)] ∧ Z.Warmed39 U.vm ∧ U.heap = h0) (fun _ _ _ _ _ => True) (fun _ U o U' => ∃ v L, o = .returned v ∧ Q0 Z p1 p2 p3 p4 h0 n0 v U'.heap L ∧ FrameEnd U o U' L room_1.cells room_1.slots) := by
  refine MetFree.of_bodySF (plainFor_of_name pn_0) hisR ?_
  intro p e s m args below meth c s₁ Bd hml0 hP hK
  obtain ⟨rfl, hZ, hh⟩ := hP
  have hx := Bd.exec
  have hby := Bd.bytes
  have hml : c.maxLocals = 10 := hml0
  have hown : s.vm.findClass "com/example/omphalos/omphalos/selfstab/EnabledNodesContainsPinLaw" = some m.cls := findClass_of_methodNamed Bd.named
  have hnm := (name_of_methodNamed Bd.named Bd.method).1
  have X0 : Stand p l e room_1 s m #[(.int p1), (.int p2), (.int p3), (.int p4)] below meth c s₁ [] 0 0 := Stand.of_body Bd
  have e0 : s₁.heap = h0 := by rw [← hh, Bd.state]; rfl
  have N0 := Fr.nil n0
  have pre0 : Goes p e below s₁ (entryFrame m #[(.int p1), (.int p2), (.int p3), (.int p4)] maxLocals) s₁ (mkF m 0 #[.val (.int p1), .val (.int p2), .val (.int p3), .val (.int p4), .unset, .unset, .unset, .unset, .unset, .unset] []) := fun t k => castTop (ef_0 m p1 p2 p3 p4) k
  have c0 := own_chk
  obtain ⟨T75, h75, X75, e75, E75, A75, D75, -, st75⟩ := newO X0 hx hZ hown (hw _ (List.mem_of_getElem? (i := 0) rfl)) (hw _ (List.mem_of_getElem? (i := 1) rfl)) (hw _ (List.mem_of_getElem? (i := 2) rfl)) e0 (g := (mkF m 0 #[.val (.int p1), .val (.int p2), .val (.int p3), .val (.int p4), .unset, .unset, .unset, .unset, .unset, .unset] [])) rfl (hb hby at_0) (by decide) (by decide)
  obtain ⟨b75, g75⟩ : ∃ z, z = h0.size := ⟨_, rfl⟩
  rw [← g75] at A75 D75 st75
  have pre75 : Goes p e below s₁ (entryFrame m #[(.int p1), (.int p2), (.int p3), (.int p4)] maxLocals) T75 (mkF m 3 #[.val (.int p1), .val (.int p2), .val (.int p3), .val (.int p4), .unset, .unset, .unset, .unset, .unset, .unset] [(.ref b75)]) := fun t k => pre0 t (st75 _ k)
  have F_members_b75 : Fld Z h75 b75 "com/example/omphalos/omphalos/selfstab/EnabledNodes" "members" "[I" .null := D75 (Or.inr (hw _ (List.mem_of_getElem? (i := 11) rfl))) (ty := (.array .int)) (by decide)
  have F_position_b75 : Fld Z h75 b75 "com/example/omphalos/omphalos/selfstab/EnabledNodes" "position" "[I" .null := D75 (Or.inr (hw _ (List.mem_of_getElem? (i := 13) rfl))) (ty := (.array .int)) (by decide)
  have F_size_b75 : Fld Z h75 b75 "com/example/omphalos/omphalos/selfstab/EnabledNodes" "size" "I" (.int (0 : Int32)) := D75 (Or.inl (hw _ (List.mem_of_getElem? (i := 34) rfl))) (ty := .int) (by decide)
  have Za : n0 ≤ h75.size := Nat.le_trans Z0 E75.1
  have ga : n0 ≤ b75 := Nat.le_trans Z0 (Nat.le_of_eq g75.symm)
  have pre76 : Goes p e below s₁ (entryFrame m #[(.int p1), (.int p2), (.int p3), (.int p4)] maxLocals) T75 (mkF m 5 #[.val (.int p1), .val (.int p2), .val (.int p3), .val (.int p4), .unset, .unset, .unset, .unset, .unset, .unset] [(.int (4 : Int32)), (.ref b75), (.ref b75)]) := fun t k => pre75 t (by
      refine XS.dup X75.here hx rfl (hb hby at_3) rfl rfl ?_
      show Steps p.tables e below (T75.setTop (mkF m 4 #[.val (.int p1), .val (.int p2), .val (.int p3), .val (.int p4), .unset, .unset, .unset, .unset, .unset, .unset] [(.ref b75), (.ref b75)])) _
      refine XS.iconst X75.here hx rfl (hb hby at_4) ?_
      show Steps p.tables e below (T75.setTop (mkF m 5 #[.val (.int p1), .val (.int p2), .val (.int p3), .val (.int p4), .unset, .unset, .unset, .unset, .unset, .unset] [(.int (4 : Int32)), (.ref b75), (.ref b75)])) _
      exact k)
  obtain ⟨_, _, ⟨T77, L77, k77, n77⟩, -, X77, ⟨Lc77, hQ77, l77, y77, z77⟩, st77⟩ := X75.specialBack hx (y := (⟨"com/example/omphalos/omphalos/selfstab/EnabledNodes", "<init>", "(I)V"⟩ : MethodName)) rfl hown (mvT hZ (hw _ (List.mem_of_getElem? (i := 3) rfl))) (mvT hZ (hw _ (List.mem_of_getElem? (i := 4) rfl))) (mvT hZ (hw _ (List.mem_of_getElem? (i := 5) rfl))) (by decide) (backOf (W := 1) (rmi l Z a0 hw [] b75 h75 n0 Za A75 F_members_b75 F_position_b75 F_size_b75 ga) hZ (hw _ (List.mem_of_getElem? (i := 5) rfl)) (hw _ (List.mem_of_getElem? (i := 2) rfl)) (by decide) (by decide)) (g := (mkF m 5 #[.val (.int p1), .val (.int p2), .val (.int p3), .val (.int p4), .unset, .unset, .unset, .unset, .unset, .unset] [(.int (4 : Int32)), (.ref b75), (.ref b75)])) rfl (by rw [hml]; rfl) (Steps.refl _) (a := b75) (argsL := [(.int (4 : Int32))]) (rest := [(.ref b75)]) (lenOf pd_2 rfl) rfl (by show 2 * 0 + _ ≤ _; exact Nat.le_of_eq rfl) (hb hby at_5) (fun _ _ => ⟨rfl, e75, (by decide : 1 + 2 ≤ _), (by decide : 3 + 8 ≤ _)⟩)
  dsimp only [Pt.U, Pt.locs, Pt.cells, Pt.slots] at X77 l77 y77 z77 st77 hQ77
  subst l77 y77 z77
  obtain ⟨rfl, N77q, eh77⟩ := hQ77
  have N77 := Fr.app N0 N77q
  have pre77 : Goes p e below s₁ (entryFrame m #[(.int p1), (.int p2), (.int p3), (.int p4)] maxLocals) T77 (mkF m 8 #[.val (.int p1), .val (.int p2), .val (.int p3), .val (.int p4), .unset, .unset, .unset, .unset, .unset, .unset] [(.ref b75)]) := fun t k => pre76 t (st77.trans k)
  obtain ⟨zz, bm, bp, gm, gp, O0⟩ := eh77
  have Zh0 : n0 ≤ T77.heap.size := Nat.le_trans Za zz
  have hp0 : ([-1, -1, -1, -1] : List Int32).length = 4 := rfl
  have hm0 : ([0, 0, 0, 0] : List Int32).length = 4 := rfl
  have pre78 : Goes p e below s₁ (entryFrame m #[(.int p1), (.int p2), (.int p3), (.int p4)] maxLocals) T77 (mkF m 21 #[.val (.int p1), .val (.int p2), .val (.int p3), .val (.int p4), .val (.ref b75), .val (.int (0 : Int32)), .unset, .unset, .unset, .unset] [(.int (p1 &&& (4 : Int32))), (.int (p1 &&& (3 : Int32))), (.ref b75)]) := fun t k => pre77 t (by
      refine XS.astore X77.here hx rfl (hb hby at_8) rfl rfl (l' := #[.val (.int p1), .val (.int p2), .val (.int p3), .val (.int p4), .val (.ref b75), .unset, .unset, .unset, .unset, .unset]) rfl ?_
      show Steps p.tables e below (T77.setTop (mkF m 10 #[.val (.int p1), .val (.int p2), .val (.int p3), .val (.int p4), .val (.ref b75), .unset, .unset, .unset, .unset, .unset] [])) _
      refine XS.iconst X77.here hx rfl (hb hby at_10) ?_
      show Steps p.tables e below (T77.setTop (mkF m 11 #[.val (.int p1), .val (.int p2), .val (.int p3), .val (.int p4), .val (.ref b75), .unset, .unset, .unset, .unset, .unset] [(.int (0 : Int32))])) _
      refine XS.istore X77.here hx rfl (hb hby at_11) rfl (l' := #[.val (.int p1), .val (.int p2), .val (.int p3), .val (.int p4), .val (.ref b75), .val (.int (0 : Int32)), .unset, .unset, .unset, .unset]) rfl ?_
      show Steps p.tables e below (T77.setTop (mkF m 13 #[.val (.int p1), .val (.int p2), .val (.int p3), .val (.int p4), .val (.ref b75), .val (.int (0 : Int32)), .unset, .unset, .unset, .unset] [])) _
      refine XS.aload X77.here hx rfl (hb hby at_13) rfl rfl ?_
      show Steps p.tables e below (T77.setTop (mkF m 15 #[.val (.int p1), .val (.int p2), .val (.int p3), .val (.int p4), .val (.ref b75), .val (.int (0 : Int32)), .unset, .unset, .unset, .unset] [(.ref b75)])) _
      refine XS.iloadN X77.here hx rfl (hb hby at_15) rfl ?_
      show Steps p.tables e below (T77.setTop (mkF m 16 #[.val (.int p1), .val (.int p2), .val (.int p3), .val (.int p4), .val (.ref b75), .val (.int (0 : Int32)), .unset, .unset, .unset, .unset] [(.int p1), (.ref b75)])) _
      refine XS.iconst X77.here hx rfl (hb hby at_16) ?_
      show Steps p.tables e below (T77.setTop (mkF m 17 #[.val (.int p1), .val (.int p2), .val (.int p3), .val (.int p4), .val (.ref b75), .val (.int (0 : Int32)), .unset, .unset, .unset, .unset] [(.int (3 : Int32)), (.int p1), (.ref b75)])) _
      refine XS.iand X77.here hx rfl (hb hby at_17) rfl ?_
      show Steps p.tables e below (T77.setTop (mkF m 18 #[.val (.int p1), .val (.int p2), .val (.int p3), .val (.int p4), .val (.ref b75), .val (.int (0 : Int32)), .unset, .unset, .unset, .unset] [(.int (p1 &&& (3 : Int32))), (.ref b75)])) _
      refine XS.iloadN X77.here hx rfl (hb hby at_18) rfl ?_
      show Steps p.tables e below (T77.setTop (mkF m 19 #[.val (.int p1), .val (.int p2), .val (.int p3), .val (.int p4), .val (.ref b75), .val (.int (0 : Int32)), .unset, .unset, .unset, .unset] [(.int p1), (.int (p1 &&& (3 : Int32))), (.ref b75)])) _
      refine XS.iconst X77.here hx rfl (hb hby at_19) ?_
      show Steps p.tables e below (T77.setTop (mkF m 20 #[.val (.int p1), .val (.int p2), .val (.int p3), .val (.int p4), .val (.ref b75), .val (.int (0 : Int32)), .unset, .unset, .unset, .unset] [(.int (4 : Int32)), (.int p1), (.int (p1 &&& (3 : Int32))), (.ref b75)])) _
      refine XS.iand X77.here hx rfl (hb hby at_20) rfl ?_
      show Steps p.tables e below (T77.setTop (mkF m 21 #[.val (.int p1), .val (.int p2), .val (.int p3), .val (.int p4), .val (.ref b75), .val (.int (0 : Int32)), .unset, .unset, .unset, .unset] [(.int (p1 &&& (4 : Int32))), (.int (p1 &&& (3 : Int32))), (.ref b75)])) _
      exact k)
  have pre79 : Goes p e below s₁ (entryFrame m #[(.int p1), (.int p2), (.int p3), (.int p4)] maxLocals) T77 (mkF m 29 #[.val (.int p1), .val (.int p2), .val (.int p3), .val (.int p4), .val (.ref b75), .val (.int (0 : Int32)), .unset, .unset, .unset, .unset] [(.int (enA p1)), (.int (p1 &&& (3 : Int32))), (.ref b75)]) := by
    by_cases hd80 : (p1 &&& (4 : Int32)) = (0 : Int32)
    · skip
      have pre81 : Goes p e below s₁ (entryFrame m #[(.int p1), (.int p2), (.int p3), (.int p4)] maxLocals) T77 (mkF m 29 #[.val (.int p1), .val (.int p2), .val (.int p3), .val (.int p4), .val (.ref b75), .val (.int (0 : Int32)), .unset, .unset, .unset, .unset] [(.int (0 : Int32)), (.int (p1 &&& (3 : Int32))), (.ref b75)]) := fun t k => pre78 t (by
          refine XS.ifYes X77.here hx rfl (pc0 := 21) (pc' := 28) rfl (hb hby at_21) rfl ((if0 _ _).trans (teq hd80).1) (by decide) (by decide) ?_
          show Steps p.tables e below (T77.setTop (mkF m 28 #[.val (.int p1), .val (.int p2), .val (.int p3), .val (.int p4), .val (.ref b75), .val (.int (0 : Int32)), .unset, .unset, .unset, .unset] [(.int (p1 &&& (3 : Int32))), (.ref b75)])) _
          refine XS.iconst X77.here hx rfl (hb hby at_28) ?_
          show Steps p.tables e below (T77.setTop (mkF m 29 #[.val (.int p1), .val (.int p2), .val (.int p3), .val (.int p4), .val (.ref b75), .val (.int (0 : Int32)), .unset, .unset, .unset, .unset] [(.int (0 : Int32)), (.int (p1 &&& (3 : Int32))), (.ref b75)])) _
          exact k)
      rw [show (enA p1) = (0 : Int32) from if_pos hd80]
      exact pre81
    · skip
      have pre82 : Goes p e below s₁ (entryFrame m #[(.int p1), (.int p2), (.int p3), (.int p4)] maxLocals) T77 (mkF m 29 #[.val (.int p1), .val (.int p2), .val (.int p3), .val (.int p4), .val (.ref b75), .val (.int (0 : Int32)), .unset, .unset, .unset, .unset] [(.int (1 : Int32)), (.int (p1 &&& (3 : Int32))), (.ref b75)]) := fun t k => pre78 t (by
          refine XS.ifNo X77.here hx rfl (hb hby at_21) rfl ((if0 _ _).trans (feq hd80).1) ?_
          show Steps p.tables e below (T77.setTop (mkF m 24 #[.val (.int p1), .val (.int p2), .val (.int p3), .val (.int p4), .val (.ref b75), .val (.int (0 : Int32)), .unset, .unset, .unset, .unset] [(.int (p1 &&& (3 : Int32))), (.ref b75)])) _
          refine XS.iconst X77.here hx rfl (hb hby at_24) ?_
          show Steps p.tables e below (T77.setTop (mkF m 25 #[.val (.int p1), .val (.int p2), .val (.int p3), .val (.int p4), .val (.ref b75), .val (.int (0 : Int32)), .unset, .unset, .unset, .unset] [(.int (1 : Int32)), (.int (p1 &&& (3 : Int32))), (.ref b75)])) _
          refine XS.goto X77.here hx rfl (pc0 := 25) (pc' := 29) rfl (hb hby at_25) (by decide) (by decide) ?_
          show Steps p.tables e below (T77.setTop (mkF m 29 #[.val (.int p1), .val (.int p2), .val (.int p3), .val (.int p4), .val (.ref b75), .val (.int (0 : Int32)), .unset, .unset, .unset, .unset] [(.int (1 : Int32)), (.int (p1 &&& (3 : Int32))), (.ref b75)])) _
          exact k)
      rw [show (enA p1) = (1 : Int32) from if_neg hd80]
      exact pre82
  obtain ⟨s0, c1⟩ := own_step c0 p1
  obtain ⟨cq83, kq83, q83a, q83b, q83c⟩ := isOf hZ rfl O0.1
  obtain ⟨_, _, ⟨T83, L83, k83, n83⟩, -, X83, ⟨Lc83, hQ83, l83, y83, z83⟩, st83⟩ := X77.virtualBack hx (y := (⟨"com/example/omphalos/omphalos/selfstab/EnabledNodes", "set", "(IZ)V"⟩ : MethodName)) (z := (⟨"com/example/omphalos/omphalos/selfstab/EnabledNodes", "set", "(IZ)V"⟩ : MethodName)) hown (mvT hZ (hw _ (List.mem_of_getElem? (i := 18) rfl))) (mvT hZ (hw _ (List.mem_of_getElem? (i := 19) rfl))) (notFace_of_selects (args := #[]) (mvT hZ (hw _ (List.mem_of_getElem? (i := 21) rfl)))) (mvT hZ (hw _ (List.mem_of_getElem? (i := 21) rfl))) (mvT hZ (hw _ (List.mem_of_getElem? (i := 20) rfl))) (by decide) (backOf (W := 0) (rms l Z a0 hw [] b75 (p1 &&& (3 : Int32)) (enA p1) bm bp ([-1, -1, -1, -1] : List Int32) ([0, 0, 0, 0] : List Int32) (0 : Int32) T77.heap n0 Zh0 O0 hp0 hm0 (own_r p1) s0 ga gm gp) hZ (hw _ (List.mem_of_getElem? (i := 22) rfl)) (hw _ (List.mem_of_getElem? (i := 2) rfl)) (by decide) (by decide)) q83a q83c (g := (mkF m 29 #[.val (.int p1), .val (.int p2), .val (.int p3), .val (.int p4), .val (.ref b75), .val (.int (0 : Int32)), .unset, .unset, .unset, .unset] [(.int (enA p1)), (.int (p1 &&& (3 : Int32))), (.ref b75)])) rfl (by rw [hml]; rfl) (Steps.refl _) (argsL := [(.int (p1 &&& (3 : Int32))), (.int (enA p1))]) (rest := []) (lenOf pd_3 rfl) rfl (by show 2 * 0 + _ ≤ _; exact Nat.le_of_eq rfl) (hb hby at_29) (fun _ _ => ⟨rfl, rfl, (by decide : 3 + 0 ≤ _), (by decide : 11 + 0 ≤ _)⟩)
  dsimp only [Pt.U, Pt.locs, Pt.cells, Pt.slots] at X83 l83 y83 z83 st83 hQ83
  subst l83 y83 z83
  obtain ⟨rfl, N83q, eh83⟩ := hQ83
  have N83 := Fr.app N77 N83q
  have pre83 : Goes p e below s₁ (entryFrame m #[(.int p1), (.int p2), (.int p3), (.int p4)] maxLocals) T83 (mkF m 32 #[.val (.int p1), .val (.int p2), .val (.int p3), .val (.int p4), .val (.ref b75), .val (.int (0 : Int32)), .unset, .unset, .unset, .unset] []) := fun t k => pre79 t (st83.trans k)
  obtain ⟨zz0, O1⟩ := eh83
  have Zh1 : n0 ≤ T83.heap.size := Nat.le_trans Zh0 zz0
  have hp1 := (setP_len ([-1, -1, -1, -1] : List Int32) ([0, 0, 0, 0] : List Int32) (0 : Int32) (p1 &&& 3) (enA p1)).trans hp0
  have hm1 := (setM_len ([-1, -1, -1, -1] : List Int32) ([0, 0, 0, 0] : List Int32) (0 : Int32) (p1 &&& 3) (enA p1)).trans hm0
  have pre84 : Goes p e below s₁ (entryFrame m #[(.int p1), (.int p2), (.int p3), (.int p4)] maxLocals) T83 (mkF m 35 #[.val (.int p1), .val (.int p2), .val (.int p3), .val (.int p4), .val (.ref b75), .val (.int (0 : Int32)), .unset, .unset, .unset, .unset] [(.int p1), (.int (0 : Int32))]) := fun t k => pre83 t (by
      refine XS.iload X83.here hx rfl (hb hby at_32) rfl ?_
      show Steps p.tables e below (T83.setTop (mkF m 34 #[.val (.int p1), .val (.int p2), .val (.int p3), .val (.int p4), .val (.ref b75), .val (.int (0 : Int32)), .unset, .unset, .unset, .unset] [(.int (0 : Int32))])) _
      refine XS.iloadN X83.here hx rfl (hb hby at_34) rfl ?_
      show Steps p.tables e below (T83.setTop (mkF m 35 #[.val (.int p1), .val (.int p2), .val (.int p3), .val (.int p4), .val (.ref b75), .val (.int (0 : Int32)), .unset, .unset, .unset, .unset] [(.int p1), (.int (0 : Int32))])) _
      exact k)
  obtain ⟨_, _, ⟨T85, L85, k85, n85⟩, -, X85, ⟨Lc85, hQ85, l85, y85, z85⟩, st85⟩ := Jvm.LawKit.callS X83 hx (y := (⟨"com/example/omphalos/omphalos/selfstab/EnabledNodesContainsPinLaw", "step", "(II)I"⟩ : MethodName)) hown (mvT hZ (hw _ (List.mem_of_getElem? (i := 28) rfl))) (mvT hZ (hw _ (List.mem_of_getElem? (i := 29) rfl))) (mvT hZ (hw _ (List.mem_of_getElem? (i := 30) rfl))) (mvT hZ (hw _ (List.mem_of_getElem? (i := 31) rfl))) (by decide) (backOf (W := 0) (rmt l Z a0 hw [] (0 : Int32) p1 T83.heap n0 Zh1) hZ (hw _ (List.mem_of_getElem? (i := 31) rfl)) (hw _ (List.mem_of_getElem? (i := 30) rfl)) (by decide) (by decide)) (g := (mkF m 35 #[.val (.int p1), .val (.int p2), .val (.int p3), .val (.int p4), .val (.ref b75), .val (.int (0 : Int32)), .unset, .unset, .unset, .unset] [(.int p1), (.int (0 : Int32))])) rfl (by rw [hml]; rfl) (argsL := [(.int (0 : Int32)), (.int p1)]) (rest := []) (lenOf pd_4 rfl) rfl (by show 2 * 0 + _ ≤ _; exact Nat.le_of_eq rfl) (hb hby at_35) (fun _ _ => ⟨rfl, rfl, (by decide : 3 + 0 ≤ _), (by decide : 11 + 0 ≤ _)⟩)
  dsimp only [Pt.U, Pt.locs, Pt.cells, Pt.slots] at X85 l85 y85 z85 st85 hQ85
  subst l85 y85 z85
  obtain ⟨rfl, N85q, eh85⟩ := hQ85
  have N85 := Fr.app N83 N85q
  have pre85 : Goes p e below s₁ (entryFrame m #[(.int p1), (.int p2), (.int p3), (.int p4)] maxLocals) T85 (mkF m 38 #[.val (.int p1), .val (.int p2), .val (.int p3), .val (.int p4), .val (.ref b75), .val (.int (0 : Int32)), .unset, .unset, .unset, .unset] [(.int (stA (0 : Int32) p1))]) := fun t k => pre84 t (st85 _ k)
  obtain ⟨P1, eP1⟩ : ∃ z, z = setP ([-1, -1, -1, -1] : List Int32) ([0, 0, 0, 0] : List Int32) (0 : Int32) (p1 &&& 3) (enA p1) := ⟨_, rfl⟩
  obtain ⟨M1, eM1⟩ : ∃ z, z = setM ([-1, -1, -1, -1] : List Int32) ([0, 0, 0, 0] : List Int32) (0 : Int32) (p1 &&& 3) (enA p1) := ⟨_, rfl⟩
  obtain ⟨S1, eS1⟩ : ∃ z, z = setZ ([-1, -1, -1, -1] : List Int32) ([0, 0, 0, 0] : List Int32) (0 : Int32) (p1 &&& 3) (enA p1) := ⟨_, rfl⟩
  obtain ⟨m1, em1⟩ : ∃ z, z = stA (0 : Int32) p1 := ⟨_, rfl⟩
  rw [← eP1, ← eM1, ← eS1] at O1
  rw [← eP1, ← eM1, ← eS1, ← em1] at c1
  rw [← eP1] at hp1
  rw [← eM1] at hm1
  rw [← em1] at pre85
  have pre86 : Goes p e below s₁ (entryFrame m #[(.int p1), (.int p2), (.int p3), (.int p4)] maxLocals) T85 (mkF m 48 #[.val (.int p1), .val (.int p2), .val (.int p3), .val (.int p4), .val (.ref b75), .val (.int m1), .unset, .unset, .unset, .unset] [(.int (p2 &&& (4 : Int32))), (.int (p2 &&& (3 : Int32))), (.ref b75)]) := fun t k => pre85 t (by
      refine XS.istore X85.here hx rfl (hb hby at_38) rfl (l' := #[.val (.int p1), .val (.int p2), .val (.int p3), .val (.int p4), .val (.ref b75), .val (.int m1), .unset, .unset, .unset, .unset]) rfl ?_
      show Steps p.tables e below (T85.setTop (mkF m 40 #[.val (.int p1), .val (.int p2), .val (.int p3), .val (.int p4), .val (.ref b75), .val (.int m1), .unset, .unset, .unset, .unset] [])) _
      refine XS.aload X85.here hx rfl (hb hby at_40) rfl rfl ?_
      show Steps p.tables e below (T85.setTop (mkF m 42 #[.val (.int p1), .val (.int p2), .val (.int p3), .val (.int p4), .val (.ref b75), .val (.int m1), .unset, .unset, .unset, .unset] [(.ref b75)])) _
      refine XS.iloadN X85.here hx rfl (hb hby at_42) rfl ?_
      show Steps p.tables e below (T85.setTop (mkF m 43 #[.val (.int p1), .val (.int p2), .val (.int p3), .val (.int p4), .val (.ref b75), .val (.int m1), .unset, .unset, .unset, .unset] [(.int p2), (.ref b75)])) _
      refine XS.iconst X85.here hx rfl (hb hby at_43) ?_
      show Steps p.tables e below (T85.setTop (mkF m 44 #[.val (.int p1), .val (.int p2), .val (.int p3), .val (.int p4), .val (.ref b75), .val (.int m1), .unset, .unset, .unset, .unset] [(.int (3 : Int32)), (.int p2), (.ref b75)])) _
      refine XS.iand X85.here hx rfl (hb hby at_44) rfl ?_
      show Steps p.tables e below (T85.setTop (mkF m 45 #[.val (.int p1), .val (.int p2), .val (.int p3), .val (.int p4), .val (.ref b75), .val (.int m1), .unset, .unset, .unset, .unset] [(.int (p2 &&& (3 : Int32))), (.ref b75)])) _
      refine XS.iloadN X85.here hx rfl (hb hby at_45) rfl ?_
      show Steps p.tables e below (T85.setTop (mkF m 46 #[.val (.int p1), .val (.int p2), .val (.int p3), .val (.int p4), .val (.ref b75), .val (.int m1), .unset, .unset, .unset, .unset] [(.int p2), (.int (p2 &&& (3 : Int32))), (.ref b75)])) _
      refine XS.iconst X85.here hx rfl (hb hby at_46) ?_
      show Steps p.tables e below (T85.setTop (mkF m 47 #[.val (.int p1), .val (.int p2), .val (.int p3), .val (.int p4), .val (.ref b75), .val (.int m1), .unset, .unset, .unset, .unset] [(.int (4 : Int32)), (.int p2), (.int (p2 &&& (3 : Int32))), (.ref b75)])) _
      refine XS.iand X85.here hx rfl (hb hby at_47) rfl ?_
      show Steps p.tables e below (T85.setTop (mkF m 48 #[.val (.int p1), .val (.int p2), .val (.int p3), .val (.int p4), .val (.ref b75), .val (.int m1), .unset, .unset, .unset, .unset] [(.int (p2 &&& (4 : Int32))), (.int (p2 &&& (3 : Int32))), (.ref b75)])) _
      exact k)
  have pre87 : Goes p e below s₁ (entryFrame m #[(.int p1), (.int p2), (.int p3), (.int p4)] maxLocals) T85 (mkF m 56 #[.val (.int p1), .val (.int p2), .val (.int p3), .val (.int p4), .val (.ref b75), .val (.int m1), .unset, .unset, .unset, .unset] [(.int (enA p2)), (.int (p2 &&& (3 : Int32))), (.ref b75)]) := by
    by_cases hd88 : (p2 &&& (4 : Int32)) = (0 : Int32)
    · skip
      have pre89 : Goes p e below s₁ (entryFrame m #[(.int p1), (.int p2), (.int p3), (.int p4)] maxLocals) T85 (mkF m 56 #[.val (.int p1), .val (.int p2), .val (.int p3), .val (.int p4), .val (.ref b75), .val (.int m1), .unset, .unset, .unset, .unset] [(.int (0 : Int32)), (.int (p2 &&& (3 : Int32))), (.ref b75)]) := fun t k => pre86 t (by
          refine XS.ifYes X85.here hx rfl (pc0 := 48) (pc' := 55) rfl (hb hby at_48) rfl ((if0 _ _).trans (teq hd88).1) (by decide) (by decide) ?_
          show Steps p.tables e below (T85.setTop (mkF m 55 #[.val (.int p1), .val (.int p2), .val (.int p3), .val (.int p4), .val (.ref b75), .val (.int m1), .unset, .unset, .unset, .unset] [(.int (p2 &&& (3 : Int32))), (.ref b75)])) _
          refine XS.iconst X85.here hx rfl (hb hby at_55) ?_
          show Steps p.tables e below (T85.setTop (mkF m 56 #[.val (.int p1), .val (.int p2), .val (.int p3), .val (.int p4), .val (.ref b75), .val (.int m1), .unset, .unset, .unset, .unset] [(.int (0 : Int32)), (.int (p2 &&& (3 : Int32))), (.ref b75)])) _
          exact k)
      rw [show (enA p2) = (0 : Int32) from if_pos hd88]
      exact pre89
    · skip
      have pre90 : Goes p e below s₁ (entryFrame m #[(.int p1), (.int p2), (.int p3), (.int p4)] maxLocals) T85 (mkF m 56 #[.val (.int p1), .val (.int p2), .val (.int p3), .val (.int p4), .val (.ref b75), .val (.int m1), .unset, .unset, .unset, .unset] [(.int (1 : Int32)), (.int (p2 &&& (3 : Int32))), (.ref b75)]) := fun t k => pre86 t (by
          refine XS.ifNo X85.here hx rfl (hb hby at_48) rfl ((if0 _ _).trans (feq hd88).1) ?_
          show Steps p.tables e below (T85.setTop (mkF m 51 #[.val (.int p1), .val (.int p2), .val (.int p3), .val (.int p4), .val (.ref b75), .val (.int m1), .unset, .unset, .unset, .unset] [(.int (p2 &&& (3 : Int32))), (.ref b75)])) _
          refine XS.iconst X85.here hx rfl (hb hby at_51) ?_
          show Steps p.tables e below (T85.setTop (mkF m 52 #[.val (.int p1), .val (.int p2), .val (.int p3), .val (.int p4), .val (.ref b75), .val (.int m1), .unset, .unset, .unset, .unset] [(.int (1 : Int32)), (.int (p2 &&& (3 : Int32))), (.ref b75)])) _
          refine XS.goto X85.here hx rfl (pc0 := 52) (pc' := 56) rfl (hb hby at_52) (by decide) (by decide) ?_
          show Steps p.tables e below (T85.setTop (mkF m 56 #[.val (.int p1), .val (.int p2), .val (.int p3), .val (.int p4), .val (.ref b75), .val (.int m1), .unset, .unset, .unset, .unset] [(.int (1 : Int32)), (.int (p2 &&& (3 : Int32))), (.ref b75)])) _
          exact k)
      rw [show (enA p2) = (1 : Int32) from if_neg hd88]
      exact pre90
  obtain ⟨s1, c2⟩ := own_step c1 p2
  obtain ⟨cq91, kq91, q91a, q91b, q91c⟩ := isOf hZ eh85 O1.1
  obtain ⟨_, _, ⟨T91, L91, k91, n91⟩, -, X91, ⟨Lc91, hQ91, l91, y91, z91⟩, st91⟩ := X85.virtualBack hx (y := (⟨"com/example/omphalos/omphalos/selfstab/EnabledNodes", "set", "(IZ)V"⟩ : MethodName)) (z := (⟨"com/example/omphalos/omphalos/selfstab/EnabledNodes", "set", "(IZ)V"⟩ : MethodName)) hown (mvT hZ (hw _ (List.mem_of_getElem? (i := 18) rfl))) (mvT hZ (hw _ (List.mem_of_getElem? (i := 19) rfl))) (notFace_of_selects (args := #[]) (mvT hZ (hw _ (List.mem_of_getElem? (i := 21) rfl)))) (mvT hZ (hw _ (List.mem_of_getElem? (i := 21) rfl))) (mvT hZ (hw _ (List.mem_of_getElem? (i := 20) rfl))) (by decide) (backOf (W := 0) (rms l Z a0 hw [] b75 (p2 &&& (3 : Int32)) (enA p2) bm bp P1 M1 S1 T83.heap n0 Zh1 O1 hp1 hm1 (own_r p2) s1 ga gm gp) hZ (hw _ (List.mem_of_getElem? (i := 22) rfl)) (hw _ (List.mem_of_getElem? (i := 2) rfl)) (by decide) (by decide)) q91a q91c (g := (mkF m 56 #[.val (.int p1), .val (.int p2), .val (.int p3), .val (.int p4), .val (.ref b75), .val (.int m1), .unset, .unset, .unset, .unset] [(.int (enA p2)), (.int (p2 &&& (3 : Int32))), (.ref b75)])) rfl (by rw [hml]; rfl) (Steps.refl _) (argsL := [(.int (p2 &&& (3 : Int32))), (.int (enA p2))]) (rest := []) (lenOf pd_3 rfl) rfl (by show 2 * 0 + _ ≤ _; exact Nat.le_of_eq rfl) (hb hby at_56) (fun _ _ => ⟨rfl, eh85, (by decide : 3 + 0 ≤ _), (by decide : 11 + 0 ≤ _)⟩)
  dsimp only [Pt.U, Pt.locs, Pt.cells, Pt.slots] at X91 l91 y91 z91 st91 hQ91
  subst l91 y91 z91
  obtain ⟨rfl, N91q, eh91⟩ := hQ91
  have N91 := Fr.app N85 N91q
  have pre91 : Goes p e below s₁ (entryFrame m #[(.int p1), (.int p2), (.int p3), (.int p4)] maxLocals) T91 (mkF m 59 #[.val (.int p1), .val (.int p2), .val (.int p3), .val (.int p4), .val (.ref b75), .val (.int m1), .unset, .unset, .unset, .unset] []) := fun t k => pre87 t (st91.trans k)
  obtain ⟨zz1, O2⟩ := eh91
  have Zh2 : n0 ≤ T91.heap.size := Nat.le_trans Zh1 zz1
  have hp2 := (setP_len P1 M1 S1 (p2 &&& 3) (enA p2)).trans hp1
  have hm2 := (setM_len P1 M1 S1 (p2 &&& 3) (enA p2)).trans hm1
  have pre92 : Goes p e below s₁ (entryFrame m #[(.int p1), (.int p2), (.int p3), (.int p4)] maxLocals) T91 (mkF m 62 #[.val (.int p1), .val (.int p2), .val (.int p3), .val (.int p4), .val (.ref b75), .val (.int m1), .unset, .unset, .unset, .unset] [(.int p2), (.int m1)]) := fun t k => pre91 t (by
      refine XS.iload X91.here hx rfl (hb hby at_59) rfl ?_
      show Steps p.tables e below (T91.setTop (mkF m 61 #[.val (.int p1), .val (.int p2), .val (.int p3), .val (.int p4), .val (.ref b75), .val (.int m1), .unset, .unset, .unset, .unset] [(.int m1)])) _
      refine XS.iloadN X91.here hx rfl (hb hby at_61) rfl ?_
      show Steps p.tables e below (T91.setTop (mkF m 62 #[.val (.int p1), .val (.int p2), .val (.int p3), .val (.int p4), .val (.ref b75), .val (.int m1), .unset, .unset, .unset, .unset] [(.int p2), (.int m1)])) _
      exact k)
  obtain ⟨_, _, ⟨T93, L93, k93, n93⟩, -, X93, ⟨Lc93, hQ93, l93, y93, z93⟩, st93⟩ := Jvm.LawKit.callS X91 hx (y := (⟨"com/example/omphalos/omphalos/selfstab/EnabledNodesContainsPinLaw", "step", "(II)I"⟩ : MethodName)) hown (mvT hZ (hw _ (List.mem_of_getElem? (i := 28) rfl))) (mvT hZ (hw _ (List.mem_of_getElem? (i := 29) rfl))) (mvT hZ (hw _ (List.mem_of_getElem? (i := 30) rfl))) (mvT hZ (hw _ (List.mem_of_getElem? (i := 31) rfl))) (by decide) (backOf (W := 0) (rmt l Z a0 hw [] m1 p2 T91.heap n0 Zh2) hZ (hw _ (List.mem_of_getElem? (i := 31) rfl)) (hw _ (List.mem_of_getElem? (i := 30) rfl)) (by decide) (by decide)) (g := (mkF m 62 #[.val (.int p1), .val (.int p2), .val (.int p3), .val (.int p4), .val (.ref b75), .val (.int m1), .unset, .unset, .unset, .unset] [(.int p2), (.int m1)])) rfl (by rw [hml]; rfl) (argsL := [(.int m1), (.int p2)]) (rest := []) (lenOf pd_4 rfl) rfl (by show 2 * 0 + _ ≤ _; exact Nat.le_of_eq rfl) (hb hby at_62) (fun _ _ => ⟨rfl, rfl, (by decide : 3 + 0 ≤ _), (by decide : 11 + 0 ≤ _)⟩)
  dsimp only [Pt.U, Pt.locs, Pt.cells, Pt.slots] at X93 l93 y93 z93 st93 hQ93
  subst l93 y93 z93
  obtain ⟨rfl, N93q, eh93⟩ := hQ93
  have N93 := Fr.app N91 N93q
  have pre93 : Goes p e below s₁ (entryFrame m #[(.int p1), (.int p2), (.int p3), (.int p4)] maxLocals) T93 (mkF m 65 #[.val (.int p1), .val (.int p2), .val (.int p3), .val (.int p4), .val (.ref b75), .val (.int m1), .unset, .unset, .unset, .unset] [(.int (stA m1 p2))]) := fun t k => pre92 t (st93 _ k)
  obtain ⟨P2, eP2⟩ : ∃ z, z = setP P1 M1 S1 (p2 &&& 3) (enA p2) := ⟨_, rfl⟩
  obtain ⟨M2, eM2⟩ : ∃ z, z = setM P1 M1 S1 (p2 &&& 3) (enA p2) := ⟨_, rfl⟩
  obtain ⟨S2, eS2⟩ : ∃ z, z = setZ P1 M1 S1 (p2 &&& 3) (enA p2) := ⟨_, rfl⟩
  obtain ⟨m2, em2⟩ : ∃ z, z = stA m1 p2 := ⟨_, rfl⟩
  rw [← eP2, ← eM2, ← eS2] at O2
  rw [← eP2, ← eM2, ← eS2, ← em2] at c2
  rw [← eP2] at hp2
  rw [← eM2] at hm2
  rw [← em2] at pre93
  have pre94 : Goes p e below s₁ (entryFrame m #[(.int p1), (.int p2), (.int p3), (.int p4)] maxLocals) T93 (mkF m 75 #[.val (.int p1), .val (.int p2), .val (.int p3), .val (.int p4), .val (.ref b75), .val (.int m2), .unset, .unset, .unset, .unset] [(.int (p3 &&& (4 : Int32))), (.int (p3 &&& (3 : Int32))), (.ref b75)]) := fun t k => pre93 t (by
      refine XS.istore X93.here hx rfl (hb hby at_65) rfl (l' := #[.val (.int p1), .val (.int p2), .val (.int p3), .val (.int p4), .val (.ref b75), .val (.int m2), .unset, .unset, .unset, .unset]) rfl ?_
      show Steps p.tables e below (T93.setTop (mkF m 67 #[.val (.int p1), .val (.int p2), .val (.int p3), .val (.int p4), .val (.ref b75), .val (.int m2), .unset, .unset, .unset, .unset] [])) _
      refine XS.aload X93.here hx rfl (hb hby at_67) rfl rfl ?_
      show Steps p.tables e below (T93.setTop (mkF m 69 #[.val (.int p1), .val (.int p2), .val (.int p3), .val (.int p4), .val (.ref b75), .val (.int m2), .unset, .unset, .unset, .unset] [(.ref b75)])) _
      refine XS.iloadN X93.here hx rfl (hb hby at_69) rfl ?_
      show Steps p.tables e below (T93.setTop (mkF m 70 #[.val (.int p1), .val (.int p2), .val (.int p3), .val (.int p4), .val (.ref b75), .val (.int m2), .unset, .unset, .unset, .unset] [(.int p3), (.ref b75)])) _
      refine XS.iconst X93.here hx rfl (hb hby at_70) ?_
      show Steps p.tables e below (T93.setTop (mkF m 71 #[.val (.int p1), .val (.int p2), .val (.int p3), .val (.int p4), .val (.ref b75), .val (.int m2), .unset, .unset, .unset, .unset] [(.int (3 : Int32)), (.int p3), (.ref b75)])) _
      refine XS.iand X93.here hx rfl (hb hby at_71) rfl ?_
      show Steps p.tables e below (T93.setTop (mkF m 72 #[.val (.int p1), .val (.int p2), .val (.int p3), .val (.int p4), .val (.ref b75), .val (.int m2), .unset, .unset, .unset, .unset] [(.int (p3 &&& (3 : Int32))), (.ref b75)])) _
      refine XS.iloadN X93.here hx rfl (hb hby at_72) rfl ?_
      show Steps p.tables e below (T93.setTop (mkF m 73 #[.val (.int p1), .val (.int p2), .val (.int p3), .val (.int p4), .val (.ref b75), .val (.int m2), .unset, .unset, .unset, .unset] [(.int p3), (.int (p3 &&& (3 : Int32))), (.ref b75)])) _
      refine XS.iconst X93.here hx rfl (hb hby at_73) ?_
      show Steps p.tables e below (T93.setTop (mkF m 74 #[.val (.int p1), .val (.int p2), .val (.int p3), .val (.int p4), .val (.ref b75), .val (.int m2), .unset, .unset, .unset, .unset] [(.int (4 : Int32)), (.int p3), (.int (p3 &&& (3 : Int32))), (.ref b75)])) _
      refine XS.iand X93.here hx rfl (hb hby at_74) rfl ?_
      show Steps p.tables e below (T93.setTop (mkF m 75 #[.val (.int p1), .val (.int p2), .val (.int p3), .val (.int p4), .val (.ref b75), .val (.int m2), .unset, .unset, .unset, .unset] [(.int (p3 &&& (4 : Int32))), (.int (p3 &&& (3 : Int32))), (.ref b75)])) _
      exact k)
  have pre95 : Goes p e below s₁ (entryFrame m #[(.int p1), (.int p2), (.int p3), (.int p4)] maxLocals) T93 (mkF m 83 #[.val (.int p1), .val (.int p2), .val (.int p3), .val (.int p4), .val (.ref b75), .val (.int m2), .unset, .unset, .unset, .unset] [(.int (enA p3)), (.int (p3 &&& (3 : Int32))), (.ref b75)]) := by
    by_cases hd96 : (p3 &&& (4 : Int32)) = (0 : Int32)
    · skip
      have pre97 : Goes p e below s₁ (entryFrame m #[(.int p1), (.int p2), (.int p3), (.int p4)] maxLocals) T93 (mkF m 83 #[.val (.int p1), .val (.int p2), .val (.int p3), .val (.int p4), .val (.ref b75), .val (.int m2), .unset, .unset, .unset, .unset] [(.int (0 : Int32)), (.int (p3 &&& (3 : Int32))), (.ref b75)]) := fun t k => pre94 t (by
          refine XS.ifYes X93.here hx rfl (pc0 := 75) (pc' := 82) rfl (hb hby at_75) rfl ((if0 _ _).trans (teq hd96).1) (by decide) (by decide) ?_
          show Steps p.tables e below (T93.setTop (mkF m 82 #[.val (.int p1), .val (.int p2), .val (.int p3), .val (.int p4), .val (.ref b75), .val (.int m2), .unset, .unset, .unset, .unset] [(.int (p3 &&& (3 : Int32))), (.ref b75)])) _
          refine XS.iconst X93.here hx rfl (hb hby at_82) ?_
          show Steps p.tables e below (T93.setTop (mkF m 83 #[.val (.int p1), .val (.int p2), .val (.int p3), .val (.int p4), .val (.ref b75), .val (.int m2), .unset, .unset, .unset, .unset] [(.int (0 : Int32)), (.int (p3 &&& (3 : Int32))), (.ref b75)])) _
          exact k)
      rw [show (enA p3) = (0 : Int32) from if_pos hd96]
      exact pre97
    · skip
      have pre98 : Goes p e below s₁ (entryFrame m #[(.int p1), (.int p2), (.int p3), (.int p4)] maxLocals) T93 (mkF m 83 #[.val (.int p1), .val (.int p2), .val (.int p3), .val (.int p4), .val (.ref b75), .val (.int m2), .unset, .unset, .unset, .unset] [(.int (1 : Int32)), (.int (p3 &&& (3 : Int32))), (.ref b75)]) := fun t k => pre94 t (by
          refine XS.ifNo X93.here hx rfl (hb hby at_75) rfl ((if0 _ _).trans (feq hd96).1) ?_
          show Steps p.tables e below (T93.setTop (mkF m 78 #[.val (.int p1), .val (.int p2), .val (.int p3), .val (.int p4), .val (.ref b75), .val (.int m2), .unset, .unset, .unset, .unset] [(.int (p3 &&& (3 : Int32))), (.ref b75)])) _
          refine XS.iconst X93.here hx rfl (hb hby at_78) ?_
          show Steps p.tables e below (T93.setTop (mkF m 79 #[.val (.int p1), .val (.int p2), .val (.int p3), .val (.int p4), .val (.ref b75), .val (.int m2), .unset, .unset, .unset, .unset] [(.int (1 : Int32)), (.int (p3 &&& (3 : Int32))), (.ref b75)])) _
          refine XS.goto X93.here hx rfl (pc0 := 79) (pc' := 83) rfl (hb hby at_79) (by decide) (by decide) ?_
          show Steps p.tables e below (T93.setTop (mkF m 83 #[.val (.int p1), .val (.int p2), .val (.int p3), .val (.int p4), .val (.ref b75), .val (.int m2), .unset, .unset, .unset, .unset] [(.int (1 : Int32)), (.int (p3 &&& (3 : Int32))), (.ref b75)])) _
          exact k)
      rw [show (enA p3) = (1 : Int32) from if_neg hd96]
      exact pre98
  obtain ⟨s2, c3⟩ := own_step c2 p3
  obtain ⟨cq99, kq99, q99a, q99b, q99c⟩ := isOf hZ eh93 O2.1
  obtain ⟨_, _, ⟨T99, L99, k99, n99⟩, -, X99, ⟨Lc99, hQ99, l99, y99, z99⟩, st99⟩ := X93.virtualBack hx (y := (⟨"com/example/omphalos/omphalos/selfstab/EnabledNodes", "set", "(IZ)V"⟩ : MethodName)) (z := (⟨"com/example/omphalos/omphalos/selfstab/EnabledNodes", "set", "(IZ)V"⟩ : MethodName)) hown (mvT hZ (hw _ (List.mem_of_getElem? (i := 18) rfl))) (mvT hZ (hw _ (List.mem_of_getElem? (i := 19) rfl))) (notFace_of_selects (args := #[]) (mvT hZ (hw _ (List.mem_of_getElem? (i := 21) rfl)))) (mvT hZ (hw _ (List.mem_of_getElem? (i := 21) rfl))) (mvT hZ (hw _ (List.mem_of_getElem? (i := 20) rfl))) (by decide) (backOf (W := 0) (rms l Z a0 hw [] b75 (p3 &&& (3 : Int32)) (enA p3) bm bp P2 M2 S2 T91.heap n0 Zh2 O2 hp2 hm2 (own_r p3) s2 ga gm gp) hZ (hw _ (List.mem_of_getElem? (i := 22) rfl)) (hw _ (List.mem_of_getElem? (i := 2) rfl)) (by decide) (by decide)) q99a q99c (g := (mkF m 83 #[.val (.int p1), .val (.int p2), .val (.int p3), .val (.int p4), .val (.ref b75), .val (.int m2), .unset, .unset, .unset, .unset] [(.int (enA p3)), (.int (p3 &&& (3 : Int32))), (.ref b75)])) rfl (by rw [hml]; rfl) (Steps.refl _) (argsL := [(.int (p3 &&& (3 : Int32))), (.int (enA p3))]) (rest := []) (lenOf pd_3 rfl) rfl (by show 2 * 0 + _ ≤ _; exact Nat.le_of_eq rfl) (hb hby at_83) (fun _ _ => ⟨rfl, eh93, (by decide : 3 + 0 ≤ _), (by decide : 11 + 0 ≤ _)⟩)
  dsimp only [Pt.U, Pt.locs, Pt.cells, Pt.slots] at X99 l99 y99 z99 st99 hQ99
  subst l99 y99 z99
  obtain ⟨rfl, N99q, eh99⟩ := hQ99
  have N99 := Fr.app N93 N99q
  have pre99 : Goes p e below s₁ (entryFrame m #[(.int p1), (.int p2), (.int p3), (.int p4)] maxLocals) T99 (mkF m 86 #[.val (.int p1), .val (.int p2), .val (.int p3), .val (.int p4), .val (.ref b75), .val (.int m2), .unset, .unset, .unset, .unset] []) := fun t k => pre95 t (st99.trans k)
  obtain ⟨zz2, O3⟩ := eh99
  have Zh3 : n0 ≤ T99.heap.size := Nat.le_trans Zh2 zz2
  have hp3 := (setP_len P2 M2 S2 (p3 &&& 3) (enA p3)).trans hp2
  have hm3 := (setM_len P2 M2 S2 (p3 &&& 3) (enA p3)).trans hm2
  have pre100 : Goes p e below s₁ (entryFrame m #[(.int p1), (.int p2), (.int p3), (.int p4)] maxLocals) T99 (mkF m 89 #[.val (.int p1), .val (.int p2), .val (.int p3), .val (.int p4), .val (.ref b75), .val (.int m2), .unset, .unset, .unset, .unset] [(.int p3), (.int m2)]) := fun t k => pre99 t (by
      refine XS.iload X99.here hx rfl (hb hby at_86) rfl ?_
      show Steps p.tables e below (T99.setTop (mkF m 88 #[.val (.int p1), .val (.int p2), .val (.int p3), .val (.int p4), .val (.ref b75), .val (.int m2), .unset, .unset, .unset, .unset] [(.int m2)])) _
      refine XS.iloadN X99.here hx rfl (hb hby at_88) rfl ?_
      show Steps p.tables e below (T99.setTop (mkF m 89 #[.val (.int p1), .val (.int p2), .val (.int p3), .val (.int p4), .val (.ref b75), .val (.int m2), .unset, .unset, .unset, .unset] [(.int p3), (.int m2)])) _
      exact k)
  obtain ⟨_, _, ⟨T101, L101, k101, n101⟩, -, X101, ⟨Lc101, hQ101, l101, y101, z101⟩, st101⟩ := Jvm.LawKit.callS X99 hx (y := (⟨"com/example/omphalos/omphalos/selfstab/EnabledNodesContainsPinLaw", "step", "(II)I"⟩ : MethodName)) hown (mvT hZ (hw _ (List.mem_of_getElem? (i := 28) rfl))) (mvT hZ (hw _ (List.mem_of_getElem? (i := 29) rfl))) (mvT hZ (hw _ (List.mem_of_getElem? (i := 30) rfl))) (mvT hZ (hw _ (List.mem_of_getElem? (i := 31) rfl))) (by decide) (backOf (W := 0) (rmt l Z a0 hw [] m2 p3 T99.heap n0 Zh3) hZ (hw _ (List.mem_of_getElem? (i := 31) rfl)) (hw _ (List.mem_of_getElem? (i := 30) rfl)) (by decide) (by decide)) (g := (mkF m 89 #[.val (.int p1), .val (.int p2), .val (.int p3), .val (.int p4), .val (.ref b75), .val (.int m2), .unset, .unset, .unset, .unset] [(.int p3), (.int m2)])) rfl (by rw [hml]; rfl) (argsL := [(.int m2), (.int p3)]) (rest := []) (lenOf pd_4 rfl) rfl (by show 2 * 0 + _ ≤ _; exact Nat.le_of_eq rfl) (hb hby at_89) (fun _ _ => ⟨rfl, rfl, (by decide : 3 + 0 ≤ _), (by decide : 11 + 0 ≤ _)⟩)
  dsimp only [Pt.U, Pt.locs, Pt.cells, Pt.slots] at X101 l101 y101 z101 st101 hQ101
  subst l101 y101 z101
  obtain ⟨rfl, N101q, eh101⟩ := hQ101
  have N101 := Fr.app N99 N101q
  have pre101 : Goes p e below s₁ (entryFrame m #[(.int p1), (.int p2), (.int p3), (.int p4)] maxLocals) T101 (mkF m 92 #[.val (.int p1), .val (.int p2), .val (.int p3), .val (.int p4), .val (.ref b75), .val (.int m2), .unset, .unset, .unset, .unset] [(.int (stA m2 p3))]) := fun t k => pre100 t (st101 _ k)
  obtain ⟨P3, eP3⟩ : ∃ z, z = setP P2 M2 S2 (p3 &&& 3) (enA p3) := ⟨_, rfl⟩
  obtain ⟨M3, eM3⟩ : ∃ z, z = setM P2 M2 S2 (p3 &&& 3) (enA p3) := ⟨_, rfl⟩
  obtain ⟨S3, eS3⟩ : ∃ z, z = setZ P2 M2 S2 (p3 &&& 3) (enA p3) := ⟨_, rfl⟩
  obtain ⟨m3, em3⟩ : ∃ z, z = stA m2 p3 := ⟨_, rfl⟩
  rw [← eP3, ← eM3, ← eS3] at O3
  rw [← eP3, ← eM3, ← eS3, ← em3] at c3
  rw [← eP3] at hp3
  rw [← eM3] at hm3
  rw [← em3] at pre101
  have pre102 : Goes p e below s₁ (entryFrame m #[(.int p1), (.int p2), (.int p3), (.int p4)] maxLocals) T101 (mkF m 102 #[.val (.int p1), .val (.int p2), .val (.int p3), .val (.int p4), .val (.ref b75), .val (.int m3), .unset, .unset, .unset, .unset] [(.int (p4 &&& (4 : Int32))), (.int (p4 &&& (3 : Int32))), (.ref b75)]) := fun t k => pre101 t (by
      refine XS.istore X101.here hx rfl (hb hby at_92) rfl (l' := #[.val (.int p1), .val (.int p2), .val (.int p3), .val (.int p4), .val (.ref b75), .val (.int m3), .unset, .unset, .unset, .unset]) rfl ?_
      show Steps p.tables e below (T101.setTop (mkF m 94 #[.val (.int p1), .val (.int p2), .val (.int p3), .val (.int p4), .val (.ref b75), .val (.int m3), .unset, .unset, .unset, .unset] [])) _
      refine XS.aload X101.here hx rfl (hb hby at_94) rfl rfl ?_
      show Steps p.tables e below (T101.setTop (mkF m 96 #[.val (.int p1), .val (.int p2), .val (.int p3), .val (.int p4), .val (.ref b75), .val (.int m3), .unset, .unset, .unset, .unset] [(.ref b75)])) _
      refine XS.iloadN X101.here hx rfl (hb hby at_96) rfl ?_
      show Steps p.tables e below (T101.setTop (mkF m 97 #[.val (.int p1), .val (.int p2), .val (.int p3), .val (.int p4), .val (.ref b75), .val (.int m3), .unset, .unset, .unset, .unset] [(.int p4), (.ref b75)])) _
      refine XS.iconst X101.here hx rfl (hb hby at_97) ?_
      show Steps p.tables e below (T101.setTop (mkF m 98 #[.val (.int p1), .val (.int p2), .val (.int p3), .val (.int p4), .val (.ref b75), .val (.int m3), .unset, .unset, .unset, .unset] [(.int (3 : Int32)), (.int p4), (.ref b75)])) _
      refine XS.iand X101.here hx rfl (hb hby at_98) rfl ?_
      show Steps p.tables e below (T101.setTop (mkF m 99 #[.val (.int p1), .val (.int p2), .val (.int p3), .val (.int p4), .val (.ref b75), .val (.int m3), .unset, .unset, .unset, .unset] [(.int (p4 &&& (3 : Int32))), (.ref b75)])) _
      refine XS.iloadN X101.here hx rfl (hb hby at_99) rfl ?_
      show Steps p.tables e below (T101.setTop (mkF m 100 #[.val (.int p1), .val (.int p2), .val (.int p3), .val (.int p4), .val (.ref b75), .val (.int m3), .unset, .unset, .unset, .unset] [(.int p4), (.int (p4 &&& (3 : Int32))), (.ref b75)])) _
      refine XS.iconst X101.here hx rfl (hb hby at_100) ?_
      show Steps p.tables e below (T101.setTop (mkF m 101 #[.val (.int p1), .val (.int p2), .val (.int p3), .val (.int p4), .val (.ref b75), .val (.int m3), .unset, .unset, .unset, .unset] [(.int (4 : Int32)), (.int p4), (.int (p4 &&& (3 : Int32))), (.ref b75)])) _
      refine XS.iand X101.here hx rfl (hb hby at_101) rfl ?_
      show Steps p.tables e below (T101.setTop (mkF m 102 #[.val (.int p1), .val (.int p2), .val (.int p3), .val (.int p4), .val (.ref b75), .val (.int m3), .unset, .unset, .unset, .unset] [(.int (p4 &&& (4 : Int32))), (.int (p4 &&& (3 : Int32))), (.ref b75)])) _
      exact k)
  have pre103 : Goes p e below s₁ (entryFrame m #[(.int p1), (.int p2), (.int p3), (.int p4)] maxLocals) T101 (mkF m 110 #[.val (.int p1), .val (.int p2), .val (.int p3), .val (.int p4), .val (.ref b75), .val (.int m3), .unset, .unset, .unset, .unset] [(.int (enA p4)), (.int (p4 &&& (3 : Int32))), (.ref b75)]) := by
    by_cases hd104 : (p4 &&& (4 : Int32)) = (0 : Int32)
    · skip
      have pre105 : Goes p e below s₁ (entryFrame m #[(.int p1), (.int p2), (.int p3), (.int p4)] maxLocals) T101 (mkF m 110 #[.val (.int p1), .val (.int p2), .val (.int p3), .val (.int p4), .val (.ref b75), .val (.int m3), .unset, .unset, .unset, .unset] [(.int (0 : Int32)), (.int (p4 &&& (3 : Int32))), (.ref b75)]) := fun t k => pre102 t (by
          refine XS.ifYes X101.here hx rfl (pc0 := 102) (pc' := 109) rfl (hb hby at_102) rfl ((if0 _ _).trans (teq hd104).1) (by decide) (by decide) ?_
          show Steps p.tables e below (T101.setTop (mkF m 109 #[.val (.int p1), .val (.int p2), .val (.int p3), .val (.int p4), .val (.ref b75), .val (.int m3), .unset, .unset, .unset, .unset] [(.int (p4 &&& (3 : Int32))), (.ref b75)])) _
          refine XS.iconst X101.here hx rfl (hb hby at_109) ?_
          show Steps p.tables e below (T101.setTop (mkF m 110 #[.val (.int p1), .val (.int p2), .val (.int p3), .val (.int p4), .val (.ref b75), .val (.int m3), .unset, .unset, .unset, .unset] [(.int (0 : Int32)), (.int (p4 &&& (3 : Int32))), (.ref b75)])) _
          exact k)
      rw [show (enA p4) = (0 : Int32) from if_pos hd104]
      exact pre105
    · skip
      have pre106 : Goes p e below s₁ (entryFrame m #[(.int p1), (.int p2), (.int p3), (.int p4)] maxLocals) T101 (mkF m 110 #[.val (.int p1), .val (.int p2), .val (.int p3), .val (.int p4), .val (.ref b75), .val (.int m3), .unset, .unset, .unset, .unset] [(.int (1 : Int32)), (.int (p4 &&& (3 : Int32))), (.ref b75)]) := fun t k => pre102 t (by
          refine XS.ifNo X101.here hx rfl (hb hby at_102) rfl ((if0 _ _).trans (feq hd104).1) ?_
          show Steps p.tables e below (T101.setTop (mkF m 105 #[.val (.int p1), .val (.int p2), .val (.int p3), .val (.int p4), .val (.ref b75), .val (.int m3), .unset, .unset, .unset, .unset] [(.int (p4 &&& (3 : Int32))), (.ref b75)])) _
          refine XS.iconst X101.here hx rfl (hb hby at_105) ?_
          show Steps p.tables e below (T101.setTop (mkF m 106 #[.val (.int p1), .val (.int p2), .val (.int p3), .val (.int p4), .val (.ref b75), .val (.int m3), .unset, .unset, .unset, .unset] [(.int (1 : Int32)), (.int (p4 &&& (3 : Int32))), (.ref b75)])) _
          refine XS.goto X101.here hx rfl (pc0 := 106) (pc' := 110) rfl (hb hby at_106) (by decide) (by decide) ?_
          show Steps p.tables e below (T101.setTop (mkF m 110 #[.val (.int p1), .val (.int p2), .val (.int p3), .val (.int p4), .val (.ref b75), .val (.int m3), .unset, .unset, .unset, .unset] [(.int (1 : Int32)), (.int (p4 &&& (3 : Int32))), (.ref b75)])) _
          exact k)
      rw [show (enA p4) = (1 : Int32) from if_neg hd104]
      exact pre106
  obtain ⟨s3, c4⟩ := own_step c3 p4
  obtain ⟨cq107, kq107, q107a, q107b, q107c⟩ := isOf hZ eh101 O3.1
  obtain ⟨_, _, ⟨T107, L107, k107, n107⟩, -, X107, ⟨Lc107, hQ107, l107, y107, z107⟩, st107⟩ := X101.virtualBack hx (y := (⟨"com/example/omphalos/omphalos/selfstab/EnabledNodes", "set", "(IZ)V"⟩ : MethodName)) (z := (⟨"com/example/omphalos/omphalos/selfstab/EnabledNodes", "set", "(IZ)V"⟩ : MethodName)) hown (mvT hZ (hw _ (List.mem_of_getElem? (i := 18) rfl))) (mvT hZ (hw _ (List.mem_of_getElem? (i := 19) rfl))) (notFace_of_selects (args := #[]) (mvT hZ (hw _ (List.mem_of_getElem? (i := 21) rfl)))) (mvT hZ (hw _ (List.mem_of_getElem? (i := 21) rfl))) (mvT hZ (hw _ (List.mem_of_getElem? (i := 20) rfl))) (by decide) (backOf (W := 0) (rms l Z a0 hw [] b75 (p4 &&& (3 : Int32)) (enA p4) bm bp P3 M3 S3 T99.heap n0 Zh3 O3 hp3 hm3 (own_r p4) s3 ga gm gp) hZ (hw _ (List.mem_of_getElem? (i := 22) rfl)) (hw _ (List.mem_of_getElem? (i := 2) rfl)) (by decide) (by decide)) q107a q107c (g := (mkF m 110 #[.val (.int p1), .val (.int p2), .val (.int p3), .val (.int p4), .val (.ref b75), .val (.int m3), .unset, .unset, .unset, .unset] [(.int (enA p4)), (.int (p4 &&& (3 : Int32))), (.ref b75)])) rfl (by rw [hml]; rfl) (Steps.refl _) (argsL := [(.int (p4 &&& (3 : Int32))), (.int (enA p4))]) (rest := []) (lenOf pd_3 rfl) rfl (by show 2 * 0 + _ ≤ _; exact Nat.le_of_eq rfl) (hb hby at_110) (fun _ _ => ⟨rfl, eh101, (by decide : 3 + 0 ≤ _), (by decide : 11 + 0 ≤ _)⟩)
  dsimp only [Pt.U, Pt.locs, Pt.cells, Pt.slots] at X107 l107 y107 z107 st107 hQ107
  subst l107 y107 z107
  obtain ⟨rfl, N107q, eh107⟩ := hQ107
  have N107 := Fr.app N101 N107q
  have pre107 : Goes p e below s₁ (entryFrame m #[(.int p1), (.int p2), (.int p3), (.int p4)] maxLocals) T107 (mkF m 113 #[.val (.int p1), .val (.int p2), .val (.int p3), .val (.int p4), .val (.ref b75), .val (.int m3), .unset, .unset, .unset, .unset] []) := fun t k => pre103 t (st107.trans k)
  obtain ⟨zz3, O4⟩ := eh107
  have Zh4 : n0 ≤ T107.heap.size := Nat.le_trans Zh3 zz3
  have hp4 := (setP_len P3 M3 S3 (p4 &&& 3) (enA p4)).trans hp3
  have hm4 := (setM_len P3 M3 S3 (p4 &&& 3) (enA p4)).trans hm3
  have pre108 : Goes p e below s₁ (entryFrame m #[(.int p1), (.int p2), (.int p3), (.int p4)] maxLocals) T107 (mkF m 116 #[.val (.int p1), .val (.int p2), .val (.int p3), .val (.int p4), .val (.ref b75), .val (.int m3), .unset, .unset, .unset, .unset] [(.int p4), (.int m3)]) := fun t k => pre107 t (by
      refine XS.iload X107.here hx rfl (hb hby at_113) rfl ?_
      show Steps p.tables e below (T107.setTop (mkF m 115 #[.val (.int p1), .val (.int p2), .val (.int p3), .val (.int p4), .val (.ref b75), .val (.int m3), .unset, .unset, .unset, .unset] [(.int m3)])) _
      refine XS.iloadN X107.here hx rfl (hb hby at_115) rfl ?_
      show Steps p.tables e below (T107.setTop (mkF m 116 #[.val (.int p1), .val (.int p2), .val (.int p3), .val (.int p4), .val (.ref b75), .val (.int m3), .unset, .unset, .unset, .unset] [(.int p4), (.int m3)])) _
      exact k)
  obtain ⟨_, _, ⟨T109, L109, k109, n109⟩, -, X109, ⟨Lc109, hQ109, l109, y109, z109⟩, st109⟩ := Jvm.LawKit.callS X107 hx (y := (⟨"com/example/omphalos/omphalos/selfstab/EnabledNodesContainsPinLaw", "step", "(II)I"⟩ : MethodName)) hown (mvT hZ (hw _ (List.mem_of_getElem? (i := 28) rfl))) (mvT hZ (hw _ (List.mem_of_getElem? (i := 29) rfl))) (mvT hZ (hw _ (List.mem_of_getElem? (i := 30) rfl))) (mvT hZ (hw _ (List.mem_of_getElem? (i := 31) rfl))) (by decide) (backOf (W := 0) (rmt l Z a0 hw [] m3 p4 T107.heap n0 Zh4) hZ (hw _ (List.mem_of_getElem? (i := 31) rfl)) (hw _ (List.mem_of_getElem? (i := 30) rfl)) (by decide) (by decide)) (g := (mkF m 116 #[.val (.int p1), .val (.int p2), .val (.int p3), .val (.int p4), .val (.ref b75), .val (.int m3), .unset, .unset, .unset, .unset] [(.int p4), (.int m3)])) rfl (by rw [hml]; rfl) (argsL := [(.int m3), (.int p4)]) (rest := []) (lenOf pd_4 rfl) rfl (by show 2 * 0 + _ ≤ _; exact Nat.le_of_eq rfl) (hb hby at_116) (fun _ _ => ⟨rfl, rfl, (by decide : 3 + 0 ≤ _), (by decide : 11 + 0 ≤ _)⟩)
  dsimp only [Pt.U, Pt.locs, Pt.cells, Pt.slots] at X109 l109 y109 z109 st109 hQ109
  subst l109 y109 z109
  obtain ⟨rfl, N109q, eh109⟩ := hQ109
  have N109 := Fr.app N107 N109q
  have pre109 : Goes p e below s₁ (entryFrame m #[(.int p1), (.int p2), (.int p3), (.int p4)] maxLocals) T109 (mkF m 119 #[.val (.int p1), .val (.int p2), .val (.int p3), .val (.int p4), .val (.ref b75), .val (.int m3), .unset, .unset, .unset, .unset] [(.int (stA m3 p4))]) := fun t k => pre108 t (st109 _ k)
  obtain ⟨P4, eP4⟩ : ∃ z, z = setP P3 M3 S3 (p4 &&& 3) (enA p4) := ⟨_, rfl⟩
  obtain ⟨M4, eM4⟩ : ∃ z, z = setM P3 M3 S3 (p4 &&& 3) (enA p4) := ⟨_, rfl⟩
  obtain ⟨S4, eS4⟩ : ∃ z, z = setZ P3 M3 S3 (p4 &&& 3) (enA p4) := ⟨_, rfl⟩
  obtain ⟨m4, em4⟩ : ∃ z, z = stA m3 p4 := ⟨_, rfl⟩
  rw [← eP4, ← eM4, ← eS4] at O4
  rw [← eP4, ← eM4, ← eS4, ← em4] at c4
  rw [← eP4] at hp4
  rw [← eM4] at hm4
  rw [← em4] at pre109
  simp only [chk, Bool.and_eq_true, decide_eq_true_eq] at c4
  obtain ⟨⟨⟨d0, d1⟩, d2⟩, d3⟩ := c4
  have pre110 : Goes p e below s₁ (entryFrame m #[(.int p1), (.int p2), (.int p3), (.int p4)] maxLocals) T109 (mkF m 124 #[.val (.int p1), .val (.int p2), .val (.int p3), .val (.int p4), .val (.ref b75), .val (.int m4), .unset, .unset, .unset, .unset] [(.int (0 : Int32)), (.ref b75)]) := fun t k => pre109 t (by
      refine XS.istore X109.here hx rfl (hb hby at_119) rfl (l' := #[.val (.int p1), .val (.int p2), .val (.int p3), .val (.int p4), .val (.ref b75), .val (.int m4), .unset, .unset, .unset, .unset]) rfl ?_
      show Steps p.tables e below (T109.setTop (mkF m 121 #[.val (.int p1), .val (.int p2), .val (.int p3), .val (.int p4), .val (.ref b75), .val (.int m4), .unset, .unset, .unset, .unset] [])) _
      refine XS.aload X109.here hx rfl (hb hby at_121) rfl rfl ?_
      show Steps p.tables e below (T109.setTop (mkF m 123 #[.val (.int p1), .val (.int p2), .val (.int p3), .val (.int p4), .val (.ref b75), .val (.int m4), .unset, .unset, .unset, .unset] [(.ref b75)])) _
      refine XS.iconst X109.here hx rfl (hb hby at_123) ?_
      show Steps p.tables e below (T109.setTop (mkF m 124 #[.val (.int p1), .val (.int p2), .val (.int p3), .val (.int p4), .val (.ref b75), .val (.int m4), .unset, .unset, .unset, .unset] [(.int (0 : Int32)), (.ref b75)])) _
      exact k)
  obtain ⟨cq111, kq111, q111a, q111b, q111c⟩ := isOf hZ eh109 O4.1
  obtain ⟨_, _, ⟨T111, L111, k111, n111⟩, -, X111, ⟨Lc111, hQ111, l111, y111, z111⟩, st111⟩ := X109.virtualBack hx (y := (⟨"com/example/omphalos/omphalos/selfstab/EnabledNodes", "contains", "(I)Z"⟩ : MethodName)) (z := (⟨"com/example/omphalos/omphalos/selfstab/EnabledNodes", "contains", "(I)Z"⟩ : MethodName)) hown (mvT hZ (hw _ (List.mem_of_getElem? (i := 32) rfl))) (mvT hZ (hw _ (List.mem_of_getElem? (i := 24) rfl))) (notFace_of_selects (args := #[]) (mvT hZ (hw _ (List.mem_of_getElem? (i := 26) rfl)))) (mvT hZ (hw _ (List.mem_of_getElem? (i := 26) rfl))) (mvT hZ (hw _ (List.mem_of_getElem? (i := 25) rfl))) (by decide) (backOf (W := 0) (rmc l Z a0 hw [] b75 (0 : Int32) bm bp P4 M4 S4 T107.heap n0 Zh4 O4 hp4 (by decide)) hZ (hw _ (List.mem_of_getElem? (i := 27) rfl)) (hw _ (List.mem_of_getElem? (i := 2) rfl)) (by decide) (by decide)) q111a q111c (g := (mkF m 124 #[.val (.int p1), .val (.int p2), .val (.int p3), .val (.int p4), .val (.ref b75), .val (.int m4), .unset, .unset, .unset, .unset] [(.int (0 : Int32)), (.ref b75)])) rfl (by rw [hml]; rfl) (Steps.refl _) (argsL := [(.int (0 : Int32))]) (rest := []) (lenOf pd_1 rfl) rfl (by show 2 * 0 + _ ≤ _; exact Nat.le_of_eq rfl) (hb hby at_124) (fun _ _ => ⟨rfl, eh109, (by decide : 3 + 0 ≤ _), (by decide : 11 + 0 ≤ _)⟩)
  dsimp only [Pt.U, Pt.locs, Pt.cells, Pt.slots] at X111 l111 y111 z111 st111 hQ111
  subst l111 y111 z111
  obtain ⟨rfl, N111q, eh111⟩ := hQ111
  have N111 := Fr.app N109 N111q
  have pre111 : Goes p e below s₁ (entryFrame m #[(.int p1), (.int p2), (.int p3), (.int p4)] maxLocals) T111 (mkF m 127 #[.val (.int p1), .val (.int p2), .val (.int p3), .val (.int p4), .val (.ref b75), .val (.int m4), .unset, .unset, .unset, .unset] [(.int (fC P4 (0 : Int32)))]) := fun t k => pre110 t (st111.trans k)
  have pre112 : Goes p e below s₁ (entryFrame m #[(.int p1), (.int p2), (.int p3), (.int p4)] maxLocals) T111 (mkF m 131 #[.val (.int p1), .val (.int p2), .val (.int p3), .val (.int p4), .val (.ref b75), .val (.int m4), .unset, .unset, .unset, .unset] [(.int (m4 &&& (1 : Int32))), (.int (fC P4 (0 : Int32)))]) := fun t k => pre111 t (by
      refine XS.iload X111.here hx rfl (hb hby at_127) rfl ?_
      show Steps p.tables e below (T111.setTop (mkF m 129 #[.val (.int p1), .val (.int p2), .val (.int p3), .val (.int p4), .val (.ref b75), .val (.int m4), .unset, .unset, .unset, .unset] [(.int m4), (.int (fC P4 (0 : Int32)))])) _
      refine XS.iconst X111.here hx rfl (hb hby at_129) ?_
      show Steps p.tables e below (T111.setTop (mkF m 130 #[.val (.int p1), .val (.int p2), .val (.int p3), .val (.int p4), .val (.ref b75), .val (.int m4), .unset, .unset, .unset, .unset] [(.int (1 : Int32)), (.int m4), (.int (fC P4 (0 : Int32)))])) _
      refine XS.iand X111.here hx rfl (hb hby at_130) rfl ?_
      show Steps p.tables e below (T111.setTop (mkF m 131 #[.val (.int p1), .val (.int p2), .val (.int p3), .val (.int p4), .val (.ref b75), .val (.int m4), .unset, .unset, .unset, .unset] [(.int (m4 &&& (1 : Int32))), (.int (fC P4 (0 : Int32)))])) _
      exact k)
  have pre113 : Goes p e below s₁ (entryFrame m #[(.int p1), (.int p2), (.int p3), (.int p4)] maxLocals) T111 (mkF m 147 #[.val (.int p1), .val (.int p2), .val (.int p3), .val (.int p4), .val (.ref b75), .val (.int m4), .unset, .unset, .unset, .unset] [(.int (1 : Int32))]) := by
    by_cases hf0 : (m4 &&& (1 : Int32)) = (0 : Int32)
    · skip
      have pre114 : Goes p e below s₁ (entryFrame m #[(.int p1), (.int p2), (.int p3), (.int p4)] maxLocals) T111 (mkF m 147 #[.val (.int p1), .val (.int p2), .val (.int p3), .val (.int p4), .val (.ref b75), .val (.int m4), .unset, .unset, .unset, .unset] [(.int (1 : Int32))]) := fun t k => pre112 t (by
          refine XS.ifYes X111.here hx rfl (pc0 := 131) (pc' := 138) rfl (hb hby at_131) rfl ((if0 _ _).trans (teq hf0).1) (by decide) (by decide) ?_
          show Steps p.tables e below (T111.setTop (mkF m 138 #[.val (.int p1), .val (.int p2), .val (.int p3), .val (.int p4), .val (.ref b75), .val (.int m4), .unset, .unset, .unset, .unset] [(.int (fC P4 (0 : Int32)))])) _
          refine XS.iconst X111.here hx rfl (hb hby at_138) ?_
          show Steps p.tables e below (T111.setTop (mkF m 139 #[.val (.int p1), .val (.int p2), .val (.int p3), .val (.int p4), .val (.ref b75), .val (.int m4), .unset, .unset, .unset, .unset] [(.int (0 : Int32)), (.int (fC P4 (0 : Int32)))])) _
          refine XS.icmpNo X111.here hx rfl (hb hby at_139) rfl (teq (show (fC P4 (0 : Int32)) = (0 : Int32) from (d0.trans (if_pos hf0)))).2 ?_
          show Steps p.tables e below (T111.setTop (mkF m 142 #[.val (.int p1), .val (.int p2), .val (.int p3), .val (.int p4), .val (.ref b75), .val (.int m4), .unset, .unset, .unset, .unset] [])) _
          refine XS.iconst X111.here hx rfl (hb hby at_142) ?_
          show Steps p.tables e below (T111.setTop (mkF m 143 #[.val (.int p1), .val (.int p2), .val (.int p3), .val (.int p4), .val (.ref b75), .val (.int m4), .unset, .unset, .unset, .unset] [(.int (1 : Int32))])) _
          refine XS.goto X111.here hx rfl (pc0 := 143) (pc' := 147) rfl (hb hby at_143) (by decide) (by decide) ?_
          show Steps p.tables e below (T111.setTop (mkF m 147 #[.val (.int p1), .val (.int p2), .val (.int p3), .val (.int p4), .val (.ref b75), .val (.int m4), .unset, .unset, .unset, .unset] [(.int (1 : Int32))])) _
          exact k)
      exact pre114
    · skip
      have pre115 : Goes p e below s₁ (entryFrame m #[(.int p1), (.int p2), (.int p3), (.int p4)] maxLocals) T111 (mkF m 147 #[.val (.int p1), .val (.int p2), .val (.int p3), .val (.int p4), .val (.ref b75), .val (.int m4), .unset, .unset, .unset, .unset] [(.int (1 : Int32))]) := fun t k => pre112 t (by
          refine XS.ifNo X111.here hx rfl (hb hby at_131) rfl ((if0 _ _).trans (feq hf0).1) ?_
          show Steps p.tables e below (T111.setTop (mkF m 134 #[.val (.int p1), .val (.int p2), .val (.int p3), .val (.int p4), .val (.ref b75), .val (.int m4), .unset, .unset, .unset, .unset] [(.int (fC P4 (0 : Int32)))])) _
          refine XS.iconst X111.here hx rfl (hb hby at_134) ?_
          show Steps p.tables e below (T111.setTop (mkF m 135 #[.val (.int p1), .val (.int p2), .val (.int p3), .val (.int p4), .val (.ref b75), .val (.int m4), .unset, .unset, .unset, .unset] [(.int (1 : Int32)), (.int (fC P4 (0 : Int32)))])) _
          refine XS.goto X111.here hx rfl (pc0 := 135) (pc' := 139) rfl (hb hby at_135) (by decide) (by decide) ?_
          show Steps p.tables e below (T111.setTop (mkF m 139 #[.val (.int p1), .val (.int p2), .val (.int p3), .val (.int p4), .val (.ref b75), .val (.int m4), .unset, .unset, .unset, .unset] [(.int (1 : Int32)), (.int (fC P4 (0 : Int32)))])) _
          refine XS.icmpNo X111.here hx rfl (hb hby at_139) rfl (teq (show (fC P4 (0 : Int32)) = (1 : Int32) from (d0.trans (if_neg hf0)))).2 ?_
          show Steps p.tables e below (T111.setTop (mkF m 142 #[.val (.int p1), .val (.int p2), .val (.int p3), .val (.int p4), .val (.ref b75), .val (.int m4), .unset, .unset, .unset, .unset] [])) _
          refine XS.iconst X111.here hx rfl (hb hby at_142) ?_
          show Steps p.tables e below (T111.setTop (mkF m 143 #[.val (.int p1), .val (.int p2), .val (.int p3), .val (.int p4), .val (.ref b75), .val (.int m4), .unset, .unset, .unset, .unset] [(.int (1 : Int32))])) _
          refine XS.goto X111.here hx rfl (pc0 := 143) (pc' := 147) rfl (hb hby at_143) (by decide) (by decide) ?_
          show Steps p.tables e below (T111.setTop (mkF m 147 #[.val (.int p1), .val (.int p2), .val (.int p3), .val (.int p4), .val (.ref b75), .val (.int m4), .unset, .unset, .unset, .unset] [(.int (1 : Int32))])) _
          exact k)
      exact pre115
  have pre116 : Goes p e below s₁ (entryFrame m #[(.int p1), (.int p2), (.int p3), (.int p4)] maxLocals) T111 (mkF m 152 #[.val (.int p1), .val (.int p2), .val (.int p3), .val (.int p4), .val (.ref b75), .val (.int m4), .val (.int (1 : Int32)), .unset, .unset, .unset] [(.int (1 : Int32)), (.ref b75)]) := fun t k => pre113 t (by
      refine XS.istore X111.here hx rfl (hb hby at_147) rfl (l' := #[.val (.int p1), .val (.int p2), .val (.int p3), .val (.int p4), .val (.ref b75), .val (.int m4), .val (.int (1 : Int32)), .unset, .unset, .unset]) rfl ?_
      show Steps p.tables e below (T111.setTop (mkF m 149 #[.val (.int p1), .val (.int p2), .val (.int p3), .val (.int p4), .val (.ref b75), .val (.int m4), .val (.int (1 : Int32)), .unset, .unset, .unset] [])) _
      refine XS.aload X111.here hx rfl (hb hby at_149) rfl rfl ?_
      show Steps p.tables e below (T111.setTop (mkF m 151 #[.val (.int p1), .val (.int p2), .val (.int p3), .val (.int p4), .val (.ref b75), .val (.int m4), .val (.int (1 : Int32)), .unset, .unset, .unset] [(.ref b75)])) _
      refine XS.iconst X111.here hx rfl (hb hby at_151) ?_
      show Steps p.tables e below (T111.setTop (mkF m 152 #[.val (.int p1), .val (.int p2), .val (.int p3), .val (.int p4), .val (.ref b75), .val (.int m4), .val (.int (1 : Int32)), .unset, .unset, .unset] [(.int (1 : Int32)), (.ref b75)])) _
      exact k)
  obtain ⟨cq117, kq117, q117a, q117b, q117c⟩ := isOf hZ eh111 O4.1
  obtain ⟨_, _, ⟨T117, L117, k117, n117⟩, -, X117, ⟨Lc117, hQ117, l117, y117, z117⟩, st117⟩ := X111.virtualBack hx (y := (⟨"com/example/omphalos/omphalos/selfstab/EnabledNodes", "contains", "(I)Z"⟩ : MethodName)) (z := (⟨"com/example/omphalos/omphalos/selfstab/EnabledNodes", "contains", "(I)Z"⟩ : MethodName)) hown (mvT hZ (hw _ (List.mem_of_getElem? (i := 32) rfl))) (mvT hZ (hw _ (List.mem_of_getElem? (i := 24) rfl))) (notFace_of_selects (args := #[]) (mvT hZ (hw _ (List.mem_of_getElem? (i := 26) rfl)))) (mvT hZ (hw _ (List.mem_of_getElem? (i := 26) rfl))) (mvT hZ (hw _ (List.mem_of_getElem? (i := 25) rfl))) (by decide) (backOf (W := 0) (rmc l Z a0 hw [] b75 (1 : Int32) bm bp P4 M4 S4 T107.heap n0 Zh4 O4 hp4 (by decide)) hZ (hw _ (List.mem_of_getElem? (i := 27) rfl)) (hw _ (List.mem_of_getElem? (i := 2) rfl)) (by decide) (by decide)) q117a q117c (g := (mkF m 152 #[.val (.int p1), .val (.int p2), .val (.int p3), .val (.int p4), .val (.ref b75), .val (.int m4), .val (.int (1 : Int32)), .unset, .unset, .unset] [(.int (1 : Int32)), (.ref b75)])) rfl (by rw [hml]; rfl) (Steps.refl _) (argsL := [(.int (1 : Int32))]) (rest := []) (lenOf pd_1 rfl) rfl (by show 2 * 0 + _ ≤ _; exact Nat.le_of_eq rfl) (hb hby at_152) (fun _ _ => ⟨rfl, eh111, (by decide : 3 + 0 ≤ _), (by decide : 11 + 0 ≤ _)⟩)
  dsimp only [Pt.U, Pt.locs, Pt.cells, Pt.slots] at X117 l117 y117 z117 st117 hQ117
  subst l117 y117 z117
  obtain ⟨rfl, N117q, eh117⟩ := hQ117
  have N117 := Fr.app N111 N117q
  have pre117 : Goes p e below s₁ (entryFrame m #[(.int p1), (.int p2), (.int p3), (.int p4)] maxLocals) T117 (mkF m 155 #[.val (.int p1), .val (.int p2), .val (.int p3), .val (.int p4), .val (.ref b75), .val (.int m4), .val (.int (1 : Int32)), .unset, .unset, .unset] [(.int (fC P4 (1 : Int32)))]) := fun t k => pre116 t (st117.trans k)
  have pre118 : Goes p e below s₁ (entryFrame m #[(.int p1), (.int p2), (.int p3), (.int p4)] maxLocals) T117 (mkF m 159 #[.val (.int p1), .val (.int p2), .val (.int p3), .val (.int p4), .val (.ref b75), .val (.int m4), .val (.int (1 : Int32)), .unset, .unset, .unset] [(.int (m4 &&& (2 : Int32))), (.int (fC P4 (1 : Int32)))]) := fun t k => pre117 t (by
      refine XS.iload X117.here hx rfl (hb hby at_155) rfl ?_
      show Steps p.tables e below (T117.setTop (mkF m 157 #[.val (.int p1), .val (.int p2), .val (.int p3), .val (.int p4), .val (.ref b75), .val (.int m4), .val (.int (1 : Int32)), .unset, .unset, .unset] [(.int m4), (.int (fC P4 (1 : Int32)))])) _
      refine XS.iconst X117.here hx rfl (hb hby at_157) ?_
      show Steps p.tables e below (T117.setTop (mkF m 158 #[.val (.int p1), .val (.int p2), .val (.int p3), .val (.int p4), .val (.ref b75), .val (.int m4), .val (.int (1 : Int32)), .unset, .unset, .unset] [(.int (2 : Int32)), (.int m4), (.int (fC P4 (1 : Int32)))])) _
      refine XS.iand X117.here hx rfl (hb hby at_158) rfl ?_
      show Steps p.tables e below (T117.setTop (mkF m 159 #[.val (.int p1), .val (.int p2), .val (.int p3), .val (.int p4), .val (.ref b75), .val (.int m4), .val (.int (1 : Int32)), .unset, .unset, .unset] [(.int (m4 &&& (2 : Int32))), (.int (fC P4 (1 : Int32)))])) _
      exact k)
  have pre119 : Goes p e below s₁ (entryFrame m #[(.int p1), (.int p2), (.int p3), (.int p4)] maxLocals) T117 (mkF m 175 #[.val (.int p1), .val (.int p2), .val (.int p3), .val (.int p4), .val (.ref b75), .val (.int m4), .val (.int (1 : Int32)), .unset, .unset, .unset] [(.int (1 : Int32))]) := by
    by_cases hf1 : (m4 &&& (2 : Int32)) = (0 : Int32)
    · skip
      have pre120 : Goes p e below s₁ (entryFrame m #[(.int p1), (.int p2), (.int p3), (.int p4)] maxLocals) T117 (mkF m 175 #[.val (.int p1), .val (.int p2), .val (.int p3), .val (.int p4), .val (.ref b75), .val (.int m4), .val (.int (1 : Int32)), .unset, .unset, .unset] [(.int (1 : Int32))]) := fun t k => pre118 t (by
          refine XS.ifYes X117.here hx rfl (pc0 := 159) (pc' := 166) rfl (hb hby at_159) rfl ((if0 _ _).trans (teq hf1).1) (by decide) (by decide) ?_
          show Steps p.tables e below (T117.setTop (mkF m 166 #[.val (.int p1), .val (.int p2), .val (.int p3), .val (.int p4), .val (.ref b75), .val (.int m4), .val (.int (1 : Int32)), .unset, .unset, .unset] [(.int (fC P4 (1 : Int32)))])) _
          refine XS.iconst X117.here hx rfl (hb hby at_166) ?_
          show Steps p.tables e below (T117.setTop (mkF m 167 #[.val (.int p1), .val (.int p2), .val (.int p3), .val (.int p4), .val (.ref b75), .val (.int m4), .val (.int (1 : Int32)), .unset, .unset, .unset] [(.int (0 : Int32)), (.int (fC P4 (1 : Int32)))])) _
          refine XS.icmpNo X117.here hx rfl (hb hby at_167) rfl (teq (show (fC P4 (1 : Int32)) = (0 : Int32) from (d1.trans (if_pos hf1)))).2 ?_
          show Steps p.tables e below (T117.setTop (mkF m 170 #[.val (.int p1), .val (.int p2), .val (.int p3), .val (.int p4), .val (.ref b75), .val (.int m4), .val (.int (1 : Int32)), .unset, .unset, .unset] [])) _
          refine XS.iconst X117.here hx rfl (hb hby at_170) ?_
          show Steps p.tables e below (T117.setTop (mkF m 171 #[.val (.int p1), .val (.int p2), .val (.int p3), .val (.int p4), .val (.ref b75), .val (.int m4), .val (.int (1 : Int32)), .unset, .unset, .unset] [(.int (1 : Int32))])) _
          refine XS.goto X117.here hx rfl (pc0 := 171) (pc' := 175) rfl (hb hby at_171) (by decide) (by decide) ?_
          show Steps p.tables e below (T117.setTop (mkF m 175 #[.val (.int p1), .val (.int p2), .val (.int p3), .val (.int p4), .val (.ref b75), .val (.int m4), .val (.int (1 : Int32)), .unset, .unset, .unset] [(.int (1 : Int32))])) _
          exact k)
      exact pre120
    · skip
      have pre121 : Goes p e below s₁ (entryFrame m #[(.int p1), (.int p2), (.int p3), (.int p4)] maxLocals) T117 (mkF m 175 #[.val (.int p1), .val (.int p2), .val (.int p3), .val (.int p4), .val (.ref b75), .val (.int m4), .val (.int (1 : Int32)), .unset, .unset, .unset] [(.int (1 : Int32))]) := fun t k => pre118 t (by
          refine XS.ifNo X117.here hx rfl (hb hby at_159) rfl ((if0 _ _).trans (feq hf1).1) ?_
          show Steps p.tables e below (T117.setTop (mkF m 162 #[.val (.int p1), .val (.int p2), .val (.int p3), .val (.int p4), .val (.ref b75), .val (.int m4), .val (.int (1 : Int32)), .unset, .unset, .unset] [(.int (fC P4 (1 : Int32)))])) _
          refine XS.iconst X117.here hx rfl (hb hby at_162) ?_
          show Steps p.tables e below (T117.setTop (mkF m 163 #[.val (.int p1), .val (.int p2), .val (.int p3), .val (.int p4), .val (.ref b75), .val (.int m4), .val (.int (1 : Int32)), .unset, .unset, .unset] [(.int (1 : Int32)), (.int (fC P4 (1 : Int32)))])) _
          refine XS.goto X117.here hx rfl (pc0 := 163) (pc' := 167) rfl (hb hby at_163) (by decide) (by decide) ?_
          show Steps p.tables e below (T117.setTop (mkF m 167 #[.val (.int p1), .val (.int p2), .val (.int p3), .val (.int p4), .val (.ref b75), .val (.int m4), .val (.int (1 : Int32)), .unset, .unset, .unset] [(.int (1 : Int32)), (.int (fC P4 (1 : Int32)))])) _
          refine XS.icmpNo X117.here hx rfl (hb hby at_167) rfl (teq (show (fC P4 (1 : Int32)) = (1 : Int32) from (d1.trans (if_neg hf1)))).2 ?_
          show Steps p.tables e below (T117.setTop (mkF m 170 #[.val (.int p1), .val (.int p2), .val (.int p3), .val (.int p4), .val (.ref b75), .val (.int m4), .val (.int (1 : Int32)), .unset, .unset, .unset] [])) _
          refine XS.iconst X117.here hx rfl (hb hby at_170) ?_
          show Steps p.tables e below (T117.setTop (mkF m 171 #[.val (.int p1), .val (.int p2), .val (.int p3), .val (.int p4), .val (.ref b75), .val (.int m4), .val (.int (1 : Int32)), .unset, .unset, .unset] [(.int (1 : Int32))])) _
          refine XS.goto X117.here hx rfl (pc0 := 171) (pc' := 175) rfl (hb hby at_171) (by decide) (by decide) ?_
          show Steps p.tables e below (T117.setTop (mkF m 175 #[.val (.int p1), .val (.int p2), .val (.int p3), .val (.int p4), .val (.ref b75), .val (.int m4), .val (.int (1 : Int32)), .unset, .unset, .unset] [(.int (1 : Int32))])) _
          exact k)
      exact pre121
  have pre122 : Goes p e below s₁ (entryFrame m #[(.int p1), (.int p2), (.int p3), (.int p4)] maxLocals) T117 (mkF m 180 #[.val (.int p1), .val (.int p2), .val (.int p3), .val (.int p4), .val (.ref b75), .val (.int m4), .val (.int (1 : Int32)), .val (.int (1 : Int32)), .unset, .unset] [(.int (2 : Int32)), (.ref b75)]) := fun t k => pre119 t (by
      refine XS.istore X117.here hx rfl (hb hby at_175) rfl (l' := #[.val (.int p1), .val (.int p2), .val (.int p3), .val (.int p4), .val (.ref b75), .val (.int m4), .val (.int (1 : Int32)), .val (.int (1 : Int32)), .unset, .unset]) rfl ?_
      show Steps p.tables e below (T117.setTop (mkF m 177 #[.val (.int p1), .val (.int p2), .val (.int p3), .val (.int p4), .val (.ref b75), .val (.int m4), .val (.int (1 : Int32)), .val (.int (1 : Int32)), .unset, .unset] [])) _
      refine XS.aload X117.here hx rfl (hb hby at_177) rfl rfl ?_
      show Steps p.tables e below (T117.setTop (mkF m 179 #[.val (.int p1), .val (.int p2), .val (.int p3), .val (.int p4), .val (.ref b75), .val (.int m4), .val (.int (1 : Int32)), .val (.int (1 : Int32)), .unset, .unset] [(.ref b75)])) _
      refine XS.iconst X117.here hx rfl (hb hby at_179) ?_
      show Steps p.tables e below (T117.setTop (mkF m 180 #[.val (.int p1), .val (.int p2), .val (.int p3), .val (.int p4), .val (.ref b75), .val (.int m4), .val (.int (1 : Int32)), .val (.int (1 : Int32)), .unset, .unset] [(.int (2 : Int32)), (.ref b75)])) _
      exact k)
  obtain ⟨cq123, kq123, q123a, q123b, q123c⟩ := isOf hZ eh117 O4.1
  obtain ⟨_, _, ⟨T123, L123, k123, n123⟩, -, X123, ⟨Lc123, hQ123, l123, y123, z123⟩, st123⟩ := X117.virtualBack hx (y := (⟨"com/example/omphalos/omphalos/selfstab/EnabledNodes", "contains", "(I)Z"⟩ : MethodName)) (z := (⟨"com/example/omphalos/omphalos/selfstab/EnabledNodes", "contains", "(I)Z"⟩ : MethodName)) hown (mvT hZ (hw _ (List.mem_of_getElem? (i := 32) rfl))) (mvT hZ (hw _ (List.mem_of_getElem? (i := 24) rfl))) (notFace_of_selects (args := #[]) (mvT hZ (hw _ (List.mem_of_getElem? (i := 26) rfl)))) (mvT hZ (hw _ (List.mem_of_getElem? (i := 26) rfl))) (mvT hZ (hw _ (List.mem_of_getElem? (i := 25) rfl))) (by decide) (backOf (W := 0) (rmc l Z a0 hw [] b75 (2 : Int32) bm bp P4 M4 S4 T107.heap n0 Zh4 O4 hp4 (by decide)) hZ (hw _ (List.mem_of_getElem? (i := 27) rfl)) (hw _ (List.mem_of_getElem? (i := 2) rfl)) (by decide) (by decide)) q123a q123c (g := (mkF m 180 #[.val (.int p1), .val (.int p2), .val (.int p3), .val (.int p4), .val (.ref b75), .val (.int m4), .val (.int (1 : Int32)), .val (.int (1 : Int32)), .unset, .unset] [(.int (2 : Int32)), (.ref b75)])) rfl (by rw [hml]; rfl) (Steps.refl _) (argsL := [(.int (2 : Int32))]) (rest := []) (lenOf pd_1 rfl) rfl (by show 2 * 0 + _ ≤ _; exact Nat.le_of_eq rfl) (hb hby at_180) (fun _ _ => ⟨rfl, eh117, (by decide : 3 + 0 ≤ _), (by decide : 11 + 0 ≤ _)⟩)
  dsimp only [Pt.U, Pt.locs, Pt.cells, Pt.slots] at X123 l123 y123 z123 st123 hQ123
  subst l123 y123 z123
  obtain ⟨rfl, N123q, eh123⟩ := hQ123
  have N123 := Fr.app N117 N123q
  have pre123 : Goes p e below s₁ (entryFrame m #[(.int p1), (.int p2), (.int p3), (.int p4)] maxLocals) T123 (mkF m 183 #[.val (.int p1), .val (.int p2), .val (.int p3), .val (.int p4), .val (.ref b75), .val (.int m4), .val (.int (1 : Int32)), .val (.int (1 : Int32)), .unset, .unset] [(.int (fC P4 (2 : Int32)))]) := fun t k => pre122 t (st123.trans k)
  have pre124 : Goes p e below s₁ (entryFrame m #[(.int p1), (.int p2), (.int p3), (.int p4)] maxLocals) T123 (mkF m 187 #[.val (.int p1), .val (.int p2), .val (.int p3), .val (.int p4), .val (.ref b75), .val (.int m4), .val (.int (1 : Int32)), .val (.int (1 : Int32)), .unset, .unset] [(.int (m4 &&& (4 : Int32))), (.int (fC P4 (2 : Int32)))]) := fun t k => pre123 t (by
      refine XS.iload X123.here hx rfl (hb hby at_183) rfl ?_
      show Steps p.tables e below (T123.setTop (mkF m 185 #[.val (.int p1), .val (.int p2), .val (.int p3), .val (.int p4), .val (.ref b75), .val (.int m4), .val (.int (1 : Int32)), .val (.int (1 : Int32)), .unset, .unset] [(.int m4), (.int (fC P4 (2 : Int32)))])) _
      refine XS.iconst X123.here hx rfl (hb hby at_185) ?_
      show Steps p.tables e below (T123.setTop (mkF m 186 #[.val (.int p1), .val (.int p2), .val (.int p3), .val (.int p4), .val (.ref b75), .val (.int m4), .val (.int (1 : Int32)), .val (.int (1 : Int32)), .unset, .unset] [(.int (4 : Int32)), (.int m4), (.int (fC P4 (2 : Int32)))])) _
      refine XS.iand X123.here hx rfl (hb hby at_186) rfl ?_
      show Steps p.tables e below (T123.setTop (mkF m 187 #[.val (.int p1), .val (.int p2), .val (.int p3), .val (.int p4), .val (.ref b75), .val (.int m4), .val (.int (1 : Int32)), .val (.int (1 : Int32)), .unset, .unset] [(.int (m4 &&& (4 : Int32))), (.int (fC P4 (2 : Int32)))])) _
      exact k)
  have pre125 : Goes p e below s₁ (entryFrame m #[(.int p1), (.int p2), (.int p3), (.int p4)] maxLocals) T123 (mkF m 203 #[.val (.int p1), .val (.int p2), .val (.int p3), .val (.int p4), .val (.ref b75), .val (.int m4), .val (.int (1 : Int32)), .val (.int (1 : Int32)), .unset, .unset] [(.int (1 : Int32))]) := by
    by_cases hf2 : (m4 &&& (4 : Int32)) = (0 : Int32)
    · skip
      have pre126 : Goes p e below s₁ (entryFrame m #[(.int p1), (.int p2), (.int p3), (.int p4)] maxLocals) T123 (mkF m 203 #[.val (.int p1), .val (.int p2), .val (.int p3), .val (.int p4), .val (.ref b75), .val (.int m4), .val (.int (1 : Int32)), .val (.int (1 : Int32)), .unset, .unset] [(.int (1 : Int32))]) := fun t k => pre124 t (by
          refine XS.ifYes X123.here hx rfl (pc0 := 187) (pc' := 194) rfl (hb hby at_187) rfl ((if0 _ _).trans (teq hf2).1) (by decide) (by decide) ?_
          show Steps p.tables e below (T123.setTop (mkF m 194 #[.val (.int p1), .val (.int p2), .val (.int p3), .val (.int p4), .val (.ref b75), .val (.int m4), .val (.int (1 : Int32)), .val (.int (1 : Int32)), .unset, .unset] [(.int (fC P4 (2 : Int32)))])) _
          refine XS.iconst X123.here hx rfl (hb hby at_194) ?_
          show Steps p.tables e below (T123.setTop (mkF m 195 #[.val (.int p1), .val (.int p2), .val (.int p3), .val (.int p4), .val (.ref b75), .val (.int m4), .val (.int (1 : Int32)), .val (.int (1 : Int32)), .unset, .unset] [(.int (0 : Int32)), (.int (fC P4 (2 : Int32)))])) _
          refine XS.icmpNo X123.here hx rfl (hb hby at_195) rfl (teq (show (fC P4 (2 : Int32)) = (0 : Int32) from (d2.trans (if_pos hf2)))).2 ?_
          show Steps p.tables e below (T123.setTop (mkF m 198 #[.val (.int p1), .val (.int p2), .val (.int p3), .val (.int p4), .val (.ref b75), .val (.int m4), .val (.int (1 : Int32)), .val (.int (1 : Int32)), .unset, .unset] [])) _
          refine XS.iconst X123.here hx rfl (hb hby at_198) ?_
          show Steps p.tables e below (T123.setTop (mkF m 199 #[.val (.int p1), .val (.int p2), .val (.int p3), .val (.int p4), .val (.ref b75), .val (.int m4), .val (.int (1 : Int32)), .val (.int (1 : Int32)), .unset, .unset] [(.int (1 : Int32))])) _
          refine XS.goto X123.here hx rfl (pc0 := 199) (pc' := 203) rfl (hb hby at_199) (by decide) (by decide) ?_
          show Steps p.tables e below (T123.setTop (mkF m 203 #[.val (.int p1), .val (.int p2), .val (.int p3), .val (.int p4), .val (.ref b75), .val (.int m4), .val (.int (1 : Int32)), .val (.int (1 : Int32)), .unset, .unset] [(.int (1 : Int32))])) _
          exact k)
      exact pre126
    · skip
      have pre127 : Goes p e below s₁ (entryFrame m #[(.int p1), (.int p2), (.int p3), (.int p4)] maxLocals) T123 (mkF m 203 #[.val (.int p1), .val (.int p2), .val (.int p3), .val (.int p4), .val (.ref b75), .val (.int m4), .val (.int (1 : Int32)), .val (.int (1 : Int32)), .unset, .unset] [(.int (1 : Int32))]) := fun t k => pre124 t (by
          refine XS.ifNo X123.here hx rfl (hb hby at_187) rfl ((if0 _ _).trans (feq hf2).1) ?_
          show Steps p.tables e below (T123.setTop (mkF m 190 #[.val (.int p1), .val (.int p2), .val (.int p3), .val (.int p4), .val (.ref b75), .val (.int m4), .val (.int (1 : Int32)), .val (.int (1 : Int32)), .unset, .unset] [(.int (fC P4 (2 : Int32)))])) _
          refine XS.iconst X123.here hx rfl (hb hby at_190) ?_
          show Steps p.tables e below (T123.setTop (mkF m 191 #[.val (.int p1), .val (.int p2), .val (.int p3), .val (.int p4), .val (.ref b75), .val (.int m4), .val (.int (1 : Int32)), .val (.int (1 : Int32)), .unset, .unset] [(.int (1 : Int32)), (.int (fC P4 (2 : Int32)))])) _
          refine XS.goto X123.here hx rfl (pc0 := 191) (pc' := 195) rfl (hb hby at_191) (by decide) (by decide) ?_
          show Steps p.tables e below (T123.setTop (mkF m 195 #[.val (.int p1), .val (.int p2), .val (.int p3), .val (.int p4), .val (.ref b75), .val (.int m4), .val (.int (1 : Int32)), .val (.int (1 : Int32)), .unset, .unset] [(.int (1 : Int32)), (.int (fC P4 (2 : Int32)))])) _
          refine XS.icmpNo X123.here hx rfl (hb hby at_195) rfl (teq (show (fC P4 (2 : Int32)) = (1 : Int32) from (d2.trans (if_neg hf2)))).2 ?_
          show Steps p.tables e below (T123.setTop (mkF m 198 #[.val (.int p1), .val (.int p2), .val (.int p3), .val (.int p4), .val (.ref b75), .val (.int m4), .val (.int (1 : Int32)), .val (.int (1 : Int32)), .unset, .unset] [])) _
          refine XS.iconst X123.here hx rfl (hb hby at_198) ?_
          show Steps p.tables e below (T123.setTop (mkF m 199 #[.val (.int p1), .val (.int p2), .val (.int p3), .val (.int p4), .val (.ref b75), .val (.int m4), .val (.int (1 : Int32)), .val (.int (1 : Int32)), .unset, .unset] [(.int (1 : Int32))])) _
          refine XS.goto X123.here hx rfl (pc0 := 199) (pc' := 203) rfl (hb hby at_199) (by decide) (by decide) ?_
          show Steps p.tables e below (T123.setTop (mkF m 203 #[.val (.int p1), .val (.int p2), .val (.int p3), .val (.int p4), .val (.ref b75), .val (.int m4), .val (.int (1 : Int32)), .val (.int (1 : Int32)), .unset, .unset] [(.int (1 : Int32))])) _
          exact k)
      exact pre127
  have pre128 : Goes p e below s₁ (entryFrame m #[(.int p1), (.int p2), (.int p3), (.int p4)] maxLocals) T123 (mkF m 208 #[.val (.int p1), .val (.int p2), .val (.int p3), .val (.int p4), .val (.ref b75), .val (.int m4), .val (.int (1 : Int32)), .val (.int (1 : Int32)), .val (.int (1 : Int32)), .unset] [(.int (3 : Int32)), (.ref b75)]) := fun t k => pre125 t (by
      refine XS.istore X123.here hx rfl (hb hby at_203) rfl (l' := #[.val (.int p1), .val (.int p2), .val (.int p3), .val (.int p4), .val (.ref b75), .val (.int m4), .val (.int (1 : Int32)), .val (.int (1 : Int32)), .val (.int (1 : Int32)), .unset]) rfl ?_
      show Steps p.tables e below (T123.setTop (mkF m 205 #[.val (.int p1), .val (.int p2), .val (.int p3), .val (.int p4), .val (.ref b75), .val (.int m4), .val (.int (1 : Int32)), .val (.int (1 : Int32)), .val (.int (1 : Int32)), .unset] [])) _
      refine XS.aload X123.here hx rfl (hb hby at_205) rfl rfl ?_
      show Steps p.tables e below (T123.setTop (mkF m 207 #[.val (.int p1), .val (.int p2), .val (.int p3), .val (.int p4), .val (.ref b75), .val (.int m4), .val (.int (1 : Int32)), .val (.int (1 : Int32)), .val (.int (1 : Int32)), .unset] [(.ref b75)])) _
      refine XS.iconst X123.here hx rfl (hb hby at_207) ?_
      show Steps p.tables e below (T123.setTop (mkF m 208 #[.val (.int p1), .val (.int p2), .val (.int p3), .val (.int p4), .val (.ref b75), .val (.int m4), .val (.int (1 : Int32)), .val (.int (1 : Int32)), .val (.int (1 : Int32)), .unset] [(.int (3 : Int32)), (.ref b75)])) _
      exact k)
  obtain ⟨cq129, kq129, q129a, q129b, q129c⟩ := isOf hZ eh123 O4.1
  obtain ⟨_, _, ⟨T129, L129, k129, n129⟩, -, X129, ⟨Lc129, hQ129, l129, y129, z129⟩, st129⟩ := X123.virtualBack hx (y := (⟨"com/example/omphalos/omphalos/selfstab/EnabledNodes", "contains", "(I)Z"⟩ : MethodName)) (z := (⟨"com/example/omphalos/omphalos/selfstab/EnabledNodes", "contains", "(I)Z"⟩ : MethodName)) hown (mvT hZ (hw _ (List.mem_of_getElem? (i := 32) rfl))) (mvT hZ (hw _ (List.mem_of_getElem? (i := 24) rfl))) (notFace_of_selects (args := #[]) (mvT hZ (hw _ (List.mem_of_getElem? (i := 26) rfl)))) (mvT hZ (hw _ (List.mem_of_getElem? (i := 26) rfl))) (mvT hZ (hw _ (List.mem_of_getElem? (i := 25) rfl))) (by decide) (backOf (W := 0) (rmc l Z a0 hw [] b75 (3 : Int32) bm bp P4 M4 S4 T107.heap n0 Zh4 O4 hp4 (by decide)) hZ (hw _ (List.mem_of_getElem? (i := 27) rfl)) (hw _ (List.mem_of_getElem? (i := 2) rfl)) (by decide) (by decide)) q129a q129c (g := (mkF m 208 #[.val (.int p1), .val (.int p2), .val (.int p3), .val (.int p4), .val (.ref b75), .val (.int m4), .val (.int (1 : Int32)), .val (.int (1 : Int32)), .val (.int (1 : Int32)), .unset] [(.int (3 : Int32)), (.ref b75)])) rfl (by rw [hml]; rfl) (Steps.refl _) (argsL := [(.int (3 : Int32))]) (rest := []) (lenOf pd_1 rfl) rfl (by show 2 * 0 + _ ≤ _; exact Nat.le_of_eq rfl) (hb hby at_208) (fun _ _ => ⟨rfl, eh123, (by decide : 3 + 0 ≤ _), (by decide : 11 + 0 ≤ _)⟩)
  dsimp only [Pt.U, Pt.locs, Pt.cells, Pt.slots] at X129 l129 y129 z129 st129 hQ129
  subst l129 y129 z129
  obtain ⟨rfl, N129q, eh129⟩ := hQ129
  have N129 := Fr.app N123 N129q
  have pre129 : Goes p e below s₁ (entryFrame m #[(.int p1), (.int p2), (.int p3), (.int p4)] maxLocals) T129 (mkF m 211 #[.val (.int p1), .val (.int p2), .val (.int p3), .val (.int p4), .val (.ref b75), .val (.int m4), .val (.int (1 : Int32)), .val (.int (1 : Int32)), .val (.int (1 : Int32)), .unset] [(.int (fC P4 (3 : Int32)))]) := fun t k => pre128 t (st129.trans k)
  have pre130 : Goes p e below s₁ (entryFrame m #[(.int p1), (.int p2), (.int p3), (.int p4)] maxLocals) T129 (mkF m 216 #[.val (.int p1), .val (.int p2), .val (.int p3), .val (.int p4), .val (.ref b75), .val (.int m4), .val (.int (1 : Int32)), .val (.int (1 : Int32)), .val (.int (1 : Int32)), .unset] [(.int (m4 &&& (8 : Int32))), (.int (fC P4 (3 : Int32)))]) := fun t k => pre129 t (by
      refine XS.iload X129.here hx rfl (hb hby at_211) rfl ?_
      show Steps p.tables e below (T129.setTop (mkF m 213 #[.val (.int p1), .val (.int p2), .val (.int p3), .val (.int p4), .val (.ref b75), .val (.int m4), .val (.int (1 : Int32)), .val (.int (1 : Int32)), .val (.int (1 : Int32)), .unset] [(.int m4), (.int (fC P4 (3 : Int32)))])) _
      refine XS.bipush X129.here hx rfl (hb hby at_213) ?_
      show Steps p.tables e below (T129.setTop (mkF m 215 #[.val (.int p1), .val (.int p2), .val (.int p3), .val (.int p4), .val (.ref b75), .val (.int m4), .val (.int (1 : Int32)), .val (.int (1 : Int32)), .val (.int (1 : Int32)), .unset] [(.int (8 : Int32)), (.int m4), (.int (fC P4 (3 : Int32)))])) _
      refine XS.iand X129.here hx rfl (hb hby at_215) rfl ?_
      show Steps p.tables e below (T129.setTop (mkF m 216 #[.val (.int p1), .val (.int p2), .val (.int p3), .val (.int p4), .val (.ref b75), .val (.int m4), .val (.int (1 : Int32)), .val (.int (1 : Int32)), .val (.int (1 : Int32)), .unset] [(.int (m4 &&& (8 : Int32))), (.int (fC P4 (3 : Int32)))])) _
      exact k)
  have pre131 : Goes p e below s₁ (entryFrame m #[(.int p1), (.int p2), (.int p3), (.int p4)] maxLocals) T129 (mkF m 232 #[.val (.int p1), .val (.int p2), .val (.int p3), .val (.int p4), .val (.ref b75), .val (.int m4), .val (.int (1 : Int32)), .val (.int (1 : Int32)), .val (.int (1 : Int32)), .unset] [(.int (1 : Int32))]) := by
    by_cases hf3 : (m4 &&& (8 : Int32)) = (0 : Int32)
    · skip
      have pre132 : Goes p e below s₁ (entryFrame m #[(.int p1), (.int p2), (.int p3), (.int p4)] maxLocals) T129 (mkF m 232 #[.val (.int p1), .val (.int p2), .val (.int p3), .val (.int p4), .val (.ref b75), .val (.int m4), .val (.int (1 : Int32)), .val (.int (1 : Int32)), .val (.int (1 : Int32)), .unset] [(.int (1 : Int32))]) := fun t k => pre130 t (by
          refine XS.ifYes X129.here hx rfl (pc0 := 216) (pc' := 223) rfl (hb hby at_216) rfl ((if0 _ _).trans (teq hf3).1) (by decide) (by decide) ?_
          show Steps p.tables e below (T129.setTop (mkF m 223 #[.val (.int p1), .val (.int p2), .val (.int p3), .val (.int p4), .val (.ref b75), .val (.int m4), .val (.int (1 : Int32)), .val (.int (1 : Int32)), .val (.int (1 : Int32)), .unset] [(.int (fC P4 (3 : Int32)))])) _
          refine XS.iconst X129.here hx rfl (hb hby at_223) ?_
          show Steps p.tables e below (T129.setTop (mkF m 224 #[.val (.int p1), .val (.int p2), .val (.int p3), .val (.int p4), .val (.ref b75), .val (.int m4), .val (.int (1 : Int32)), .val (.int (1 : Int32)), .val (.int (1 : Int32)), .unset] [(.int (0 : Int32)), (.int (fC P4 (3 : Int32)))])) _
          refine XS.icmpNo X129.here hx rfl (hb hby at_224) rfl (teq (show (fC P4 (3 : Int32)) = (0 : Int32) from (d3.trans (if_pos hf3)))).2 ?_
          show Steps p.tables e below (T129.setTop (mkF m 227 #[.val (.int p1), .val (.int p2), .val (.int p3), .val (.int p4), .val (.ref b75), .val (.int m4), .val (.int (1 : Int32)), .val (.int (1 : Int32)), .val (.int (1 : Int32)), .unset] [])) _
          refine XS.iconst X129.here hx rfl (hb hby at_227) ?_
          show Steps p.tables e below (T129.setTop (mkF m 228 #[.val (.int p1), .val (.int p2), .val (.int p3), .val (.int p4), .val (.ref b75), .val (.int m4), .val (.int (1 : Int32)), .val (.int (1 : Int32)), .val (.int (1 : Int32)), .unset] [(.int (1 : Int32))])) _
          refine XS.goto X129.here hx rfl (pc0 := 228) (pc' := 232) rfl (hb hby at_228) (by decide) (by decide) ?_
          show Steps p.tables e below (T129.setTop (mkF m 232 #[.val (.int p1), .val (.int p2), .val (.int p3), .val (.int p4), .val (.ref b75), .val (.int m4), .val (.int (1 : Int32)), .val (.int (1 : Int32)), .val (.int (1 : Int32)), .unset] [(.int (1 : Int32))])) _
          exact k)
      exact pre132
    · skip
      have pre133 : Goes p e below s₁ (entryFrame m #[(.int p1), (.int p2), (.int p3), (.int p4)] maxLocals) T129 (mkF m 232 #[.val (.int p1), .val (.int p2), .val (.int p3), .val (.int p4), .val (.ref b75), .val (.int m4), .val (.int (1 : Int32)), .val (.int (1 : Int32)), .val (.int (1 : Int32)), .unset] [(.int (1 : Int32))]) := fun t k => pre130 t (by
          refine XS.ifNo X129.here hx rfl (hb hby at_216) rfl ((if0 _ _).trans (feq hf3).1) ?_
          show Steps p.tables e below (T129.setTop (mkF m 219 #[.val (.int p1), .val (.int p2), .val (.int p3), .val (.int p4), .val (.ref b75), .val (.int m4), .val (.int (1 : Int32)), .val (.int (1 : Int32)), .val (.int (1 : Int32)), .unset] [(.int (fC P4 (3 : Int32)))])) _
          refine XS.iconst X129.here hx rfl (hb hby at_219) ?_
          show Steps p.tables e below (T129.setTop (mkF m 220 #[.val (.int p1), .val (.int p2), .val (.int p3), .val (.int p4), .val (.ref b75), .val (.int m4), .val (.int (1 : Int32)), .val (.int (1 : Int32)), .val (.int (1 : Int32)), .unset] [(.int (1 : Int32)), (.int (fC P4 (3 : Int32)))])) _
          refine XS.goto X129.here hx rfl (pc0 := 220) (pc' := 224) rfl (hb hby at_220) (by decide) (by decide) ?_
          show Steps p.tables e below (T129.setTop (mkF m 224 #[.val (.int p1), .val (.int p2), .val (.int p3), .val (.int p4), .val (.ref b75), .val (.int m4), .val (.int (1 : Int32)), .val (.int (1 : Int32)), .val (.int (1 : Int32)), .unset] [(.int (1 : Int32)), (.int (fC P4 (3 : Int32)))])) _
          refine XS.icmpNo X129.here hx rfl (hb hby at_224) rfl (teq (show (fC P4 (3 : Int32)) = (1 : Int32) from (d3.trans (if_neg hf3)))).2 ?_
          show Steps p.tables e below (T129.setTop (mkF m 227 #[.val (.int p1), .val (.int p2), .val (.int p3), .val (.int p4), .val (.ref b75), .val (.int m4), .val (.int (1 : Int32)), .val (.int (1 : Int32)), .val (.int (1 : Int32)), .unset] [])) _
          refine XS.iconst X129.here hx rfl (hb hby at_227) ?_
          show Steps p.tables e below (T129.setTop (mkF m 228 #[.val (.int p1), .val (.int p2), .val (.int p3), .val (.int p4), .val (.ref b75), .val (.int m4), .val (.int (1 : Int32)), .val (.int (1 : Int32)), .val (.int (1 : Int32)), .unset] [(.int (1 : Int32))])) _
          refine XS.goto X129.here hx rfl (pc0 := 228) (pc' := 232) rfl (hb hby at_228) (by decide) (by decide) ?_
          show Steps p.tables e below (T129.setTop (mkF m 232 #[.val (.int p1), .val (.int p2), .val (.int p3), .val (.int p4), .val (.ref b75), .val (.int m4), .val (.int (1 : Int32)), .val (.int (1 : Int32)), .val (.int (1 : Int32)), .unset] [(.int (1 : Int32))])) _
          exact k)
      exact pre133
  have pre134 : Goes p e below s₁ (entryFrame m #[(.int p1), (.int p2), (.int p3), (.int p4)] maxLocals) T129 (mkF m 259 #[.val (.int p1), .val (.int p2), .val (.int p3), .val (.int p4), .val (.ref b75), .val (.int m4), .val (.int (1 : Int32)), .val (.int (1 : Int32)), .val (.int (1 : Int32)), .val (.int (1 : Int32))] [(.int (1 : Int32))]) := fun t k => pre131 t (by
      refine XS.istore X129.here hx rfl (hb hby at_232) rfl (l' := #[.val (.int p1), .val (.int p2), .val (.int p3), .val (.int p4), .val (.ref b75), .val (.int m4), .val (.int (1 : Int32)), .val (.int (1 : Int32)), .val (.int (1 : Int32)), .val (.int (1 : Int32))]) rfl ?_
      show Steps p.tables e below (T129.setTop (mkF m 234 #[.val (.int p1), .val (.int p2), .val (.int p3), .val (.int p4), .val (.ref b75), .val (.int m4), .val (.int (1 : Int32)), .val (.int (1 : Int32)), .val (.int (1 : Int32)), .val (.int (1 : Int32))] [])) _
      refine XS.iload X129.here hx rfl (hb hby at_234) rfl ?_
      show Steps p.tables e below (T129.setTop (mkF m 236 #[.val (.int p1), .val (.int p2), .val (.int p3), .val (.int p4), .val (.ref b75), .val (.int m4), .val (.int (1 : Int32)), .val (.int (1 : Int32)), .val (.int (1 : Int32)), .val (.int (1 : Int32))] [(.int (1 : Int32))])) _
      refine XS.ifNo X129.here hx rfl (hb hby at_236) rfl ((if0 _ _).trans (feq (show ¬ ((1 : Int32) = (0 : Int32)) from (by decide : ¬ ((1 : Int32) = (0 : Int32))))).1) ?_
      show Steps p.tables e below (T129.setTop (mkF m 239 #[.val (.int p1), .val (.int p2), .val (.int p3), .val (.int p4), .val (.ref b75), .val (.int m4), .val (.int (1 : Int32)), .val (.int (1 : Int32)), .val (.int (1 : Int32)), .val (.int (1 : Int32))] [])) _
      refine XS.iload X129.here hx rfl (hb hby at_239) rfl ?_
      show Steps p.tables e below (T129.setTop (mkF m 241 #[.val (.int p1), .val (.int p2), .val (.int p3), .val (.int p4), .val (.ref b75), .val (.int m4), .val (.int (1 : Int32)), .val (.int (1 : Int32)), .val (.int (1 : Int32)), .val (.int (1 : Int32))] [(.int (1 : Int32))])) _
      refine XS.ifNo X129.here hx rfl (hb hby at_241) rfl ((if0 _ _).trans (feq (show ¬ ((1 : Int32) = (0 : Int32)) from (by decide : ¬ ((1 : Int32) = (0 : Int32))))).1) ?_
      show Steps p.tables e below (T129.setTop (mkF m 244 #[.val (.int p1), .val (.int p2), .val (.int p3), .val (.int p4), .val (.ref b75), .val (.int m4), .val (.int (1 : Int32)), .val (.int (1 : Int32)), .val (.int (1 : Int32)), .val (.int (1 : Int32))] [])) _
      refine XS.iload X129.here hx rfl (hb hby at_244) rfl ?_
      show Steps p.tables e below (T129.setTop (mkF m 246 #[.val (.int p1), .val (.int p2), .val (.int p3), .val (.int p4), .val (.ref b75), .val (.int m4), .val (.int (1 : Int32)), .val (.int (1 : Int32)), .val (.int (1 : Int32)), .val (.int (1 : Int32))] [(.int (1 : Int32))])) _
      refine XS.ifNo X129.here hx rfl (hb hby at_246) rfl ((if0 _ _).trans (feq (show ¬ ((1 : Int32) = (0 : Int32)) from (by decide : ¬ ((1 : Int32) = (0 : Int32))))).1) ?_
      show Steps p.tables e below (T129.setTop (mkF m 249 #[.val (.int p1), .val (.int p2), .val (.int p3), .val (.int p4), .val (.ref b75), .val (.int m4), .val (.int (1 : Int32)), .val (.int (1 : Int32)), .val (.int (1 : Int32)), .val (.int (1 : Int32))] [])) _
      refine XS.iload X129.here hx rfl (hb hby at_249) rfl ?_
      show Steps p.tables e below (T129.setTop (mkF m 251 #[.val (.int p1), .val (.int p2), .val (.int p3), .val (.int p4), .val (.ref b75), .val (.int m4), .val (.int (1 : Int32)), .val (.int (1 : Int32)), .val (.int (1 : Int32)), .val (.int (1 : Int32))] [(.int (1 : Int32))])) _
      refine XS.ifNo X129.here hx rfl (hb hby at_251) rfl ((if0 _ _).trans (feq (show ¬ ((1 : Int32) = (0 : Int32)) from (by decide : ¬ ((1 : Int32) = (0 : Int32))))).1) ?_
      show Steps p.tables e below (T129.setTop (mkF m 254 #[.val (.int p1), .val (.int p2), .val (.int p3), .val (.int p4), .val (.ref b75), .val (.int m4), .val (.int (1 : Int32)), .val (.int (1 : Int32)), .val (.int (1 : Int32)), .val (.int (1 : Int32))] [])) _
      refine XS.iconst X129.here hx rfl (hb hby at_254) ?_
      show Steps p.tables e below (T129.setTop (mkF m 255 #[.val (.int p1), .val (.int p2), .val (.int p3), .val (.int p4), .val (.ref b75), .val (.int m4), .val (.int (1 : Int32)), .val (.int (1 : Int32)), .val (.int (1 : Int32)), .val (.int (1 : Int32))] [(.int (1 : Int32))])) _
      refine XS.goto X129.here hx rfl (pc0 := 255) (pc' := 259) rfl (hb hby at_255) (by decide) (by decide) ?_
      show Steps p.tables e below (T129.setTop (mkF m 259 #[.val (.int p1), .val (.int p2), .val (.int p3), .val (.int p4), .val (.ref b75), .val (.int m4), .val (.int (1 : Int32)), .val (.int (1 : Int32)), .val (.int (1 : Int32)), .val (.int (1 : Int32))] [(.int (1 : Int32))])) _
      exact k)
  obtain ⟨fs, hr, hrun, hended, hW, hsame⟩ := X129.leave (v := some (.int (1 : Int32))) (fun h => by rw [Bd.returns] at h; cases h)
  refine ⟨_, _, pre134 _ (retN X129 hx (t := .boolean) Bd.returns (by simp) (hb hby at_259) hr), hrun, hended, _, _, rfl, ?_, ⟨_, rfl⟩, hW, hsame.mono (by decide) (by decide)⟩
  show Q0 Z p1 p2 p3 p4 h0 n0 _ T129.heap _
  exact ⟨rfl, N129⟩
set_option maxRecDepth 65536 in
set_option maxHeartbeats 40000000 in
theorem comes_1 {Post : Tables → Env → Array Value → State → Outcome → State → Prop} (hpost : ∀ tb e args s v u, (limb_1_1.after args s (.returned v) u = true ∧ limb_1_2.after args s (.returned v) u = true ∧ True) → FrameEnd s (.returned v) u (Jvm.fieldLocs frame_1_writes args s ++ Jvm.arrayLocs frame_1_arrays args s ++ Jvm.staticLocs frame_1_statics s) 16 128 → Post tb e args s (.returned v) u) :
    ArmFor flags0 classFile x code maxLocals ret World_1 tables_1 room_1 Calls_1 rest_1 Pre_1 Post := by
  intro l hfl _ _ p e ha hc hk s m args below hf hA hF happ hP
  obtain ⟨hcalls, hrest, hpre⟩ := hP
  obtain ⟨-, -, -, hnamed, -, -, -, hat⟩ := (Spec.applies_iff hf).mp happ
  obtain ⟨hg, hn⟩ := and_e (Cond.before_iff.mp (show (Jvm.Cond.and given_1 narrow_1).before args s = true from hpre))
  obtain ⟨g0, gr0⟩ := and_e hg
  obtain ⟨w0, w1, w2, w3, rfl⟩ : ∃ w0 w1 w2 w3 : Value, args = #[w0, w1, w2, w3] := by
    have hs : args.size = 4 := by simpa [Cond.value, given_1] using g0
    obtain ⟨L⟩ := args
    match L, hs with
    | [w0, w1, w2, w3], _ => exact ⟨w0, w1, w2, w3, rfl⟩
  have hw := fun d (hd : d ∈ tables_1) => atoms_spec (ws := Jvm.Cond.code x code maxLocals ret :: tables_1) hat d (List.mem_cons_of_mem _ hd)
  obtain ⟨g1, gr1⟩ := and_e gr0
  obtain ⟨i0, ei0⟩ := is_v g1
  obtain rfl : w0 = (.int i0) := Option.some.inj ei0
  obtain ⟨g2, gr2⟩ := and_e gr1
  obtain ⟨i1, ei1⟩ := is_v g2
  obtain rfl : w1 = (.int i1) := Option.some.inj ei1
  obtain ⟨g3, gr3⟩ := and_e gr2
  obtain ⟨i2, ei2⟩ := is_v g3
  obtain rfl : w2 = (.int i2) := Option.some.inj ei2
  obtain ⟨i3, ei3⟩ := is_v gr3
  obtain rfl : w3 = (.int i3) := Option.some.inj ei3
  obtain ⟨n, o, h1, h2, h3, _, L, rfl, ⟨rfl, N⟩, hq⟩ := rm0 l s _ hw tables_1 i0 i1 i2 i3 s.heap s.heap.size (Nat.le_refl _)  p e ha hc hk s m _ below hf ((Spec.applies_iff_loose hf).mp happ).1 ⟨rfl, State.Warmed39.refl s, rfl⟩ trivial
  refine ⟨n, _, h1, h2, h3, hpost _ _ _ _ _ _ ⟨Cond.after_iff.mpr rfl, Cond.after_iff.mpr (eq_i res_at (Term.int_eval (1)) rfl), trivial⟩ ⟨hq.1, hq.2.1, (hq.2.2.sift fun y hy => Or.inr (N y hy)).mono (by decide) (by decide)⟩⟩
theorem main_1_1 : Claimed_1_1 := comes_1 fun _ _ _ _ _ _ h hF => ⟨h.1, hF⟩
theorem main_1_2 : Claimed_1_2 := comes_1 fun _ _ _ _ _ _ h hF => ⟨h.2.1, hF⟩
end Jvm.Pilot.@@N@@
namespace Jvm.Pilot.@@N@@
open Jvm Jvm.ClassFile Sem Op Lib Jvm.Free Jvm.Stand Jvm.Pilot.@@N@@.Jvm.D
/-! MADE BY PROGRAM (witnessworld.py) out of the Statement's table words and the real class files: 10 classes; the members and pool entries that the words name. The judged class is class 1, her method 1. -/
namespace start1
open Jvm.ClassFile
def u (s : String) : CpInfo := .utf8 (stringToUtf16 s)
/-- a pool by its gaps: so many unusable entries, then the entry; so many at the end -/
def gap : Nat → List CpInfo → List CpInfo
  | 0, r => r
  | n + 1, r => .unusable :: gap n r
def poolList (es : List (Nat × CpInfo)) (last : Nat) : List CpInfo := es.foldr (fun e r => gap e.1 (e.2 :: r)) (gap last [])
def pool (es : List (Nat × CpInfo)) (last : Nat) : Array CpInfo := ⟨poolList es last⟩
def fileOf (pool : Array CpInfo) (this : Nat) (attrs : Array Attribute := #[]) (ms : Array MethodInfo := #[]) (fl : Nat := 33) (sup : Nat := 0) (ifs : Array Nat := #[]) (fds : Array FieldInfo := #[]) : ClassFile where
  minorVersion := 0
  majorVersion := 65
  constantPool := pool
  accessFlags := fl
  thisClass := this
  superClass := sup
  interfaces := ifs
  fields := fds
  methods := ms
  attributes := attrs
def plain (name : String) (sup : Option ClassId) : Class where
  name := name
  kind := .ordinary
  loader := none
  accessFlags := 33
  super := sup
  interfaces := #[]
  cf := none
  fields := #[]
  methods := #[]
  instanceTypes := #[]
  staticTypes := #[]
  resolved := #[]
  callSites := []
  init := .initialized
  statics := none
  mirror := none

def pool0 : Array CpInfo := pool [(5, u "<init>"), (0, u "()V"), (1, .class_ 10), (1, u "java/lang/Object")] 113

def k0c0 : Code := { maxStack := 0, maxLocals := 1, code := object_method_1_code, exceptionTable := #[], attributes := #[] }
def k0m0 : Method := { name := "<init>", desc := "()V", sig := { parameters := [], returnType := none }, accessFlags := 1, code := some k0c0 }
/-- java/lang/Object -/
def k0 : Class := { plain "java/lang/Object" none with
  accessFlags := 33
  interfaces := #[]
  cf := some (fileOf pool0 8 #[] #[{ accessFlags := 1, nameIndex := 5, descriptorIndex := 6, attributes := #[] }] 33 0 #[] #[])
  fields := #[]
  methods := #[k0m0]
  instanceTypes := #[]
  staticTypes := #[]
  resolved := Array.replicate 124 none
  statics := none }

def pool1 : Array CpInfo := pool [(2, .class_ 4), (1, u "java/lang/Object"), (0, u "<init>"), (0, u "()V"), (0, .class_ 8), (0, u "com/example/omphalos/omphalos/selfstab/EnabledNodes"), (0, .methodref 7 10), (0, .nameAndType 5 11), (0, u "(I)V"), (0, .methodref 7 13), (0, .nameAndType 14 15), (0, u "set"), (0, u "(IZ)V"), (0, .methodref 17 18), (0, .class_ 19), (0, .nameAndType 20 21), (0, u "com/example/omphalos/omphalos/selfstab/EnabledNodesContainsPinLaw"), (0, u "step"), (0, u "(II)I"), (0, .methodref 7 23), (0, .nameAndType 24 25), (0, u "contains"), (0, u "(I)Z"), (2, u "law"), (0, u "(IIII)Z")] 3

def k1m0 : Method := { name := "<init>", desc := "()V", sig := { parameters := [], returnType := none }, accessFlags := 1, code := none }
def k1c1 : Code := { maxStack := 4, maxLocals := 10, code := code, exceptionTable := #[], attributes := #[] }
def k1m1 : Method := { name := "law", desc := "(IIII)Z", sig := { parameters := [.int, .int, .int, .int], returnType := some .boolean }, accessFlags := 9, code := some k1c1 }
def k1c2 : Code := { maxStack := 3, maxLocals := 3, code := method_3_code, exceptionTable := #[], attributes := #[] }
def k1m2 : Method := { name := "step", desc := "(II)I", sig := { parameters := [.int, .int], returnType := some .int }, accessFlags := 10, code := some k1c2 }
/-- com/example/omphalos/omphalos/selfstab/EnabledNodesContainsPinLaw -/
def k1 : Class := { plain "com/example/omphalos/omphalos/selfstab/EnabledNodesContainsPinLaw" (some 0) with
  accessFlags := 49
  interfaces := #[]
  cf := some (fileOf pool1 17 #[] #[{ accessFlags := 1, nameIndex := 5, descriptorIndex := 6, attributes := #[] }, { accessFlags := 9, nameIndex := 28, descriptorIndex := 29, attributes := #[] }, { accessFlags := 10, nameIndex := 20, descriptorIndex := 21, attributes := #[] }] 49 2 #[] #[])
  fields := #[]
  methods := #[k1m0, k1m1, k1m2]
  instanceTypes := #[]
  staticTypes := #[]
  resolved := Array.replicate 33 none
  statics := none }

def pool2 : Array CpInfo := pool [(1, .methodref 2 3), (0, .class_ 4), (0, .nameAndType 5 6), (0, u "java/lang/Object"), (0, u "<init>"), (0, u "()V"), (0, .fieldref 8 9), (0, .class_ 10), (0, .nameAndType 11 12), (0, u "com/example/omphalos/omphalos/selfstab/EnabledNodes"), (0, u "members"), (0, u "[I"), (0, .fieldref 8 14), (0, .nameAndType 15 12), (0, u "position"), (0, .methodref 17 18), (0, .class_ 19), (0, .nameAndType 20 21), (0, u "java/util/Arrays"), (0, u "fill"), (0, u "([II)V"), (0, .fieldref 8 23), (0, .nameAndType 24 25), (0, u "size"), (0, u "I"), (17, .methodref 8 44), (0, .nameAndType 45 46), (0, u "contains"), (0, u "(I)Z"), (0, u "(I)V"), (8, u "set"), (0, u "(IZ)V")] 17

def k2c0 : Code := { maxStack := 2, maxLocals := 2, code := prog_39_method_1_code, exceptionTable := #[], attributes := #[] }
def k2m0 : Method := { name := "<init>", desc := "(I)V", sig := { parameters := [.int], returnType := none }, accessFlags := 0, code := some k2c0 }
def k2c1 : Code := { maxStack := 5, maxLocals := 4, code := prog_39_method_5_code, exceptionTable := #[], attributes := #[] }
def k2m1 : Method := { name := "set", desc := "(IZ)V", sig := { parameters := [.int, .boolean], returnType := none }, accessFlags := 0, code := some k2c1 }
def k2c2 : Code := { maxStack := 2, maxLocals := 2, code := prog_39_method_6_code, exceptionTable := #[], attributes := #[] }
def k2m2 : Method := { name := "contains", desc := "(I)Z", sig := { parameters := [.int], returnType := some .boolean }, accessFlags := 0, code := some k2c2 }
/-- com/example/omphalos/omphalos/selfstab/EnabledNodes -/
def k2 : Class := { plain "com/example/omphalos/omphalos/selfstab/EnabledNodes" (some 0) with
  accessFlags := 49
  interfaces := #[]
  cf := some (fileOf pool2 8 #[] #[{ accessFlags := 0, nameIndex := 5, descriptorIndex := 47, attributes := #[] }, { accessFlags := 0, nameIndex := 56, descriptorIndex := 57, attributes := #[] }, { accessFlags := 0, nameIndex := 45, descriptorIndex := 46, attributes := #[] }] 49 2 #[] #[{ accessFlags := 18, nameIndex := 11, descriptorIndex := 12, attributes := #[] }, { accessFlags := 18, nameIndex := 15, descriptorIndex := 12, attributes := #[] }, { accessFlags := 2, nameIndex := 24, descriptorIndex := 25, attributes := #[] }])
  fields := #[{ name := "members", type := (.array .int), accessFlags := 18, slot := 0, constantValue := 0 }, { name := "position", type := (.array .int), accessFlags := 18, slot := 1, constantValue := 0 }, { name := "size", type := .int, accessFlags := 2, slot := 2, constantValue := 0 }]
  methods := #[k2m0, k2m1, k2m2]
  instanceTypes := #[(.array .int), (.array .int), .int]
  staticTypes := #[]
  resolved := Array.replicate 75 none
  statics := none }

def pool3 : Array CpInfo := pool [(2, .class_ 4), (1, u "java/lang/Object"), (0, u "<init>"), (0, u "()V"), (7, .class_ 16), (1, u "java/util/Arrays"), (57, .class_ 76), (1, u "java/util/Arrays$NaturalOrder"), (36, .class_ 115), (1, u "java/util/Arrays$LegacyMergeSort"), (1, u "Z"), (257, .class_ 376), (0, u "java/util/Arrays$ArrayList"), (68, u "$assertionsDisabled"), (269, u "MIN_ARRAY_SORT_GRAN"), (0, u "I"), (2, u "INSERTIONSORT_THRESHOLD"), (120, u "fill"), (4, u "([II)V"), (129, .class_ 976), (0, u "java/util/Arrays$ArrayItr")] 52

def k3m0 : Method := { name := "<init>", desc := "()V", sig := { parameters := [], returnType := none }, accessFlags := 2, code := none }
def k3c1 : Code := { maxStack := 3, maxLocals := 4, code := jdk_65_method_103_code, exceptionTable := #[], attributes := #[] }
def k3m1 : Method := { name := "fill", desc := "([II)V", sig := { parameters := [(.array .int), .int], returnType := none }, accessFlags := 9, code := some k3c1 }
/-- java/util/Arrays -/
def k3 : Class := { plain "java/util/Arrays" (some 0) with
  accessFlags := 49
  interfaces := #[]
  cf := some (fileOf pool3 14 #[.nestMembers #[975, 375, 113, 74]] #[{ accessFlags := 2, nameIndex := 5, descriptorIndex := 6, attributes := #[] }, { accessFlags := 9, nameIndex := 840, descriptorIndex := 845, attributes := #[] }] 49 2 #[] #[{ accessFlags := 26, nameIndex := 715, descriptorIndex := 716, attributes := #[] }, { accessFlags := 26, nameIndex := 719, descriptorIndex := 716, attributes := #[] }, { accessFlags := 4120, nameIndex := 445, descriptorIndex := 117, attributes := #[] }])
  fields := #[{ name := "MIN_ARRAY_SORT_GRAN", type := .int, accessFlags := 26, slot := 0, constantValue := 0 }, { name := "INSERTIONSORT_THRESHOLD", type := .int, accessFlags := 26, slot := 1, constantValue := 0 }, { name := "$assertionsDisabled", type := .boolean, accessFlags := 4120, slot := 2, constantValue := 0 }]
  methods := #[k3m0, k3m1]
  instanceTypes := #[]
  staticTypes := #[.int, .int, .boolean]
  resolved := Array.replicate 1029 none
  statics := none }

def pool4 : Array CpInfo := pool [(1, u "java/lang/Cloneable"), (0, .class_ 1), (0, u "java/lang/Object"), (0, .class_ 3)] 3

/-- java/lang/Cloneable -/
def k4 : Class := { plain "java/lang/Cloneable" (some 0) with
  accessFlags := 1537
  interfaces := #[]
  cf := some (fileOf pool4 2 #[] #[] 1537 4 #[] #[])
  fields := #[]
  methods := #[]
  instanceTypes := #[]
  staticTypes := #[]
  resolved := Array.replicate 8 none
  statics := none }

def pool5 : Array CpInfo := pool [(1, u "java/io/Serializable"), (0, .class_ 1), (0, u "java/lang/Object"), (0, .class_ 3)] 3

/-- java/io/Serializable -/
def k5 : Class := { plain "java/io/Serializable" (some 0) with
  accessFlags := 1537
  interfaces := #[]
  cf := some (fileOf pool5 2 #[] #[] 1537 4 #[] #[])
  fields := #[]
  methods := #[]
  instanceTypes := #[]
  staticTypes := #[]
  resolved := Array.replicate 8 none
  statics := none }

/-- the primitive byte -/
def k6 : Class := { plain "byte" none with kind := .primitive 'B', accessFlags := 0x411 }
/-- [B -/
def k7 : Class := { plain "[B" (some 0) with kind := .array 6 .byte, interfaces := #[4, 5], accessFlags := 1041 }

/-- the primitive int -/
def k8 : Class := { plain "int" none with kind := .primitive 'I', accessFlags := 0x411 }
/-- [I -/
def k9 : Class := { plain "[I" (some 0) with kind := .array 8 .int, interfaces := #[4, 5], accessFlags := 1041 }

def heap : Heap := #[]
def classes : Array Class := #[k0, k1, k2, k3, k4, k5, k6, k7, k8, k9]
def interned : List (Array UInt16 × Addr) := []
def slotsUsed : Nat := 0
def theMethod : MethodId := ⟨1, 1⟩
def args0 : Array Value := #[.int 5, .int 7, .int 3, .int 4]
def aboutOver (below : List Frame) : State where
  vm := { classes := classes, interned := interned.toArray }
  heap := heap
  slotsUsed := slotsUsed
  threads := #[{ frames := .invoking theMethod args0 :: below }]
def below0 : List Frame := [.native { method := ⟨0, 0⟩, args := #[] }]
def about1 : State := aboutOver below0
def p0 : Program := .bare "" "" ""
def e0 : Env := launch0.env 0 0 0
theorem w_frames : about1.frames = Frame.invoking theMethod args0 :: below0 := rfl
set_option maxRecDepth 65536 in
theorem w_args : argsFit about1.vm theMethod args0 = true := by decide +kernel
set_option maxRecDepth 65536 in
theorem w_heap : heapFits about1 = true := by decide +kernel
set_option maxRecDepth 65536 in
theorem w_runnable : about1.curStatus? = some .runnable := by decide +kernel
set_option maxRecDepth 65536 in
theorem w_alone : about1.alone = true := by decide +kernel
set_option maxRecDepth 65536 in
theorem w_named : about1.methodNamed? x = some theMethod := by decide +kernel
set_option maxRecDepth 65536 in
theorem w_hears : about1.hears theMethod below0 = true := by decide +kernel
set_option maxRecDepth 65536 in
theorem w_ripe : about1.ripe theMethod args0 below0 = true := by decide +kernel
theorem w_running : about1.status = .running := rfl
set_option maxRecDepth 65536 in
theorem w_room : about1.hasRoom e0.platform room_1 = true :=
  launch0.hasRoom_least _ room_1 (by decide +kernel) (by decide +kernel) (by decide +kernel) (by decide +kernel) (by decide +kernel) (by decide +kernel)
theorem allAtoms_all (ts : List Jvm.Cond) (a : Array Jvm.Value) (st : Jvm.State) : (allAtoms ts).before a st = ts.all (fun c => c.before a st) := by
  induction ts with
  | nil => rfl
  | cons c t ih =>
    show (Jvm.Cond.and c (allAtoms t)).before a st = _
    rw [Jvm.Cond.before_and, ih, List.all_cons]
def words1 : List Jvm.Cond := Jvm.Cond.code x code maxLocals ret :: tables_1
/-- a 'code' word, met by the world's own term for the bytes: nothing is compared byte by byte -/
theorem code_word {y : MethodName} {bytes : ByteArray} {mx : Nat} {rt : Option FieldType} {a : Array Value} {s : State} {m : MethodId} {meth : Method} {c : Code} (h1 : s.methodNamed? y = some m) (h2 : s.vm.method? m = some meth) (h3 : meth.code = some c) (h4 : c.code = bytes)
    (h5 : (c.maxLocals == mx && c.exceptionTable.isEmpty && decide (c.maxStack ≤ mostOperands) && decide (meth.sig.returnType = rt) && !meth.locks && decide (parseMethodDescriptor y.desc = some meth.sig)) = true) : (Jvm.Cond.code y bytes mx rt).before a s = true := by
  simp only [Bool.and_eq_true, beq_iff_eq, Bool.not_eq_true', decide_eq_true_eq] at h5
  obtain ⟨⟨⟨⟨⟨g1, g2⟩, g3⟩, g4⟩, g5⟩, g6⟩ := h5
  simp [Cond.before, Cond.holds, Cond.value, h1, h2, h3, h4, g1, g2, g3, g4, g5, g6]
def isCode : Jvm.Cond → Bool
  | .code _ _ _ _ => true
  | _ => false
theorem all_split {L : List Jvm.Cond} {P : Jvm.Cond → Bool} (h1 : L.all (fun c => isCode c || P c) = true) (h2 : ∀ c ∈ L.filter isCode, P c = true) : L.all P = true := by
  refine List.all_eq_true.mpr fun c hc => ?_
  have h := List.all_eq_true.mp h1 c hc
  rcases Bool.eq_false_or_eq_true (isCode c) with hi | hi
  · exact h2 c (List.mem_filter.mpr ⟨hc, hi⟩)
  · simpa [hi] using h
set_option maxRecDepth 65536 in
theorem w_c0 : (Jvm.Cond.code x code maxLocals ret).before args0 about1 = true := code_word (m := ⟨1, 1⟩) (meth := k1m1) (c := k1c1) (by decide +kernel) rfl rfl rfl (by decide +kernel)
set_option maxRecDepth 65536 in
theorem w_c1 : (Jvm.Cond.code ({ cls := "com/example/omphalos/omphalos/selfstab/EnabledNodes", name := "<init>", desc := "(I)V" } : Jvm.MethodName) prog_39_method_1_code (2 : Nat) (Option.none : Option Jvm.ClassFile.FieldType)).before args0 about1 = true := code_word (m := ⟨2, 0⟩) (meth := k2m0) (c := k2c0) (by decide +kernel) rfl rfl rfl (by decide +kernel)
set_option maxRecDepth 65536 in
theorem w_c2 : (Jvm.Cond.code ({ cls := "java/lang/Object", name := "<init>", desc := "()V" } : Jvm.MethodName) object_method_1_code (1 : Nat) (Option.none : Option Jvm.ClassFile.FieldType)).before args0 about1 = true := code_word (m := ⟨0, 0⟩) (meth := k0m0) (c := k0c0) (by decide +kernel) rfl rfl rfl (by decide +kernel)
set_option maxRecDepth 65536 in
theorem w_c3 : (Jvm.Cond.code ({ cls := "java/util/Arrays", name := "fill", desc := "([II)V" } : Jvm.MethodName) jdk_65_method_103_code (4 : Nat) (Option.none : Option Jvm.ClassFile.FieldType)).before args0 about1 = true := code_word (m := ⟨3, 1⟩) (meth := k3m1) (c := k3c1) (by decide +kernel) rfl rfl rfl (by decide +kernel)
set_option maxRecDepth 65536 in
theorem w_c4 : (Jvm.Cond.code ({ cls := "com/example/omphalos/omphalos/selfstab/EnabledNodes", name := "set", desc := "(IZ)V" } : Jvm.MethodName) prog_39_method_5_code (4 : Nat) (Option.none : Option Jvm.ClassFile.FieldType)).before args0 about1 = true := code_word (m := ⟨2, 1⟩) (meth := k2m1) (c := k2c1) (by decide +kernel) rfl rfl rfl (by decide +kernel)
set_option maxRecDepth 65536 in
theorem w_c5 : (Jvm.Cond.code ({ cls := "com/example/omphalos/omphalos/selfstab/EnabledNodes", name := "contains", desc := "(I)Z" } : Jvm.MethodName) prog_39_method_6_code (2 : Nat) (Option.some Jvm.ClassFile.FieldType.boolean)).before args0 about1 = true := code_word (m := ⟨2, 2⟩) (meth := k2m2) (c := k2c2) (by decide +kernel) rfl rfl rfl (by decide +kernel)
set_option maxRecDepth 65536 in
theorem w_c6 : (Jvm.Cond.code ({ cls := "com/example/omphalos/omphalos/selfstab/EnabledNodesContainsPinLaw", name := "step", desc := "(II)I" } : Jvm.MethodName) method_3_code (3 : Nat) (Option.some Jvm.ClassFile.FieldType.int)).before args0 about1 = true := code_word (m := ⟨1, 2⟩) (meth := k1m2) (c := k1c2) (by decide +kernel) rfl rfl rfl (by decide +kernel)
def codes1 : List Jvm.Cond := [Jvm.Cond.code x code maxLocals ret, Jvm.Cond.code ({ cls := "com/example/omphalos/omphalos/selfstab/EnabledNodes", name := "<init>", desc := "(I)V" } : Jvm.MethodName) prog_39_method_1_code (2 : Nat) (Option.none : Option Jvm.ClassFile.FieldType), Jvm.Cond.code ({ cls := "java/lang/Object", name := "<init>", desc := "()V" } : Jvm.MethodName) object_method_1_code (1 : Nat) (Option.none : Option Jvm.ClassFile.FieldType), Jvm.Cond.code ({ cls := "java/util/Arrays", name := "fill", desc := "([II)V" } : Jvm.MethodName) jdk_65_method_103_code (4 : Nat) (Option.none : Option Jvm.ClassFile.FieldType), Jvm.Cond.code ({ cls := "com/example/omphalos/omphalos/selfstab/EnabledNodes", name := "set", desc := "(IZ)V" } : Jvm.MethodName) prog_39_method_5_code (4 : Nat) (Option.none : Option Jvm.ClassFile.FieldType), Jvm.Cond.code ({ cls := "com/example/omphalos/omphalos/selfstab/EnabledNodes", name := "contains", desc := "(I)Z" } : Jvm.MethodName) prog_39_method_6_code (2 : Nat) (Option.some Jvm.ClassFile.FieldType.boolean), Jvm.Cond.code ({ cls := "com/example/omphalos/omphalos/selfstab/EnabledNodesContainsPinLaw", name := "step", desc := "(II)I" } : Jvm.MethodName) method_3_code (3 : Nat) (Option.some Jvm.ClassFile.FieldType.int)]
set_option maxRecDepth 65536 in
theorem codes_eq : words1.filter isCode = codes1 := rfl
theorem w_codes : ∀ c ∈ words1.filter isCode, c.before args0 about1 = true := by
  rw [codes_eq]
  intro c hc
  simp only [codes1, List.mem_cons, List.not_mem_nil, or_false] at hc
  rcases hc with rfl | rfl | rfl | rfl | rfl | rfl | rfl
  · exact w_c0
  · exact w_c1
  · exact w_c2
  · exact w_c3
  · exact w_c4
  · exact w_c5
  · exact w_c6
set_option maxRecDepth 65536 in
theorem w_t1 : (words1.take 24).all (fun c => isCode c || c.before args0 about1) = true := by decide +kernel
set_option maxRecDepth 65536 in
theorem w_t2 : (words1.drop 24).all (fun c => isCode c || c.before args0 about1) = true := by decide +kernel
theorem w_tables : (allAtoms (Jvm.Cond.code x code maxLocals ret :: tables_1)).before args0 about1 = true := by
  rw [allAtoms_all]
  show words1.all (fun c => c.before args0 about1) = true
  refine all_split ?_ w_codes
  rw [← List.take_append_drop 24 words1, List.all_append, w_t1, w_t2]
  rfl
set_option maxRecDepth 65536 in
theorem w_case : (Jvm.Cond.and given_1 narrow_1).before args0 about1 = true := by decide +kernel
theorem w_applies : (headSpec (Jvm.Cond.code x code maxLocals ret :: tables_1) room_1).applies x e0.platform about1 = true :=
  (Spec.applies_iff w_frames).mpr ⟨w_running, w_runnable, w_alone, w_named, w_hears, w_ripe, w_room, w_tables⟩
theorem atStart : AtStart classFile x code maxLocals ret World_1 tables_1 room_1 Calls_1 rest_1 Pre_1 launch0 p0 e0 about1 theMethod args0 below0 :=
  ⟨lists_1, trivial, launch0.admits_env _ _ _, launch0.least_env, fairChoices_fair.cas, fairChoices_fair.clock, w_frames, w_args, w_heap, w_applies, trivial, trivial, w_case⟩
end start1
theorem witness_1 : WitnessClaimed_1 := ⟨start1.p0, start1.e0, start1.about1, start1.theMethod, start1.args0, start1.below0, start1.atStart⟩
end Jvm.Pilot.@@N@@
