import JvmDerived
import JvmDerived.Pilot.@@N@@Statement
import JvmDerived.Pilot.@@N@@Code
set_option linter.unusedVariables false
set_option linter.unusedSimpArgs false
namespace Jvm.RoadKit
open Sem ClassFile Op Lib Jvm.Stand Jvm.Free Jvm.LawKit
section New
variable {p : Program} {l : Launch} {e : Env} {R : Room} {s : State} {m : MethodId} {args : Array Value} {below : List Frame} {meth : Method} {c : Code} {T : State} {locs : List Loc} {cells slots : Nat}
theorem retI (X : Stand p l e R s m args below meth c T locs cells slots) (hx : p.tables.exec = Jvm.exec) {pc : Nat} {Ls : Array Slot} {z : Int32} {rest : List Value} (hret : meth.sig.returnType = some .int) (hd : decode c.code pc = .ok (.ireturn, 1)) {fs : List Frame}
    (hl : ∀ (f : JFrame) (acts : List Action), f.method = m → f.locked = none → f.entered = [] → (doReturn e (T.setTop f) acts (some (.int z))).1 = T.setFrames fs) : Steps p.tables e below (T.setTop (mkF m pc Ls (.int z :: rest))) (T.setFrames fs) := by
  have hm' : T.vm.method? m = some meth := X.method'
  have hn : narrow .int (.int z) = .int z := rfl
  show Steps p.tables e below (T.setTop { method := m, pc := pc, locals := Ls, stack := _ :: rest, locked := none }) _
  jvm_step X.here [X.here.top, hx, hd, hm', hret, hn]
  first | (intro acts; rw [hl _ acts rfl rfl rfl]) | rw [hl _ _ rfl rfl rfl]
  exact Steps.refl _
end New
end Jvm.RoadKit
namespace Jvm.Pilot.@@N@@
open Jvm Jvm.ClassFile Sem Op Lib Jvm.Free Jvm.Stand Jvm.LawKit Jvm.RoadKit Bundle Jvm.Pilot.@@N@@.Jvm.D
theorem own_d (a b : Int32) : a + b - a = b := by rw [Int32.add_comm, Int32.add_sub_cancel]
theorem own_z (a : Int32) : a - (0 : Int32) = a := Int32.sub_zero a
theorem d1_0 : decode prog_31_method_1_code 0 = .ok (.aload_n 0, 1) := by decide +kernel
theorem d1_1 : decode prog_31_method_1_code 1 = .ok (.invokespecial 1, 3) := by decide +kernel
theorem d1_4 : decode prog_31_method_1_code 4 = .ok (.aload_n 0, 1) := by decide +kernel
theorem d1_5 : decode prog_31_method_1_code 5 = .ok (.aload_n 1, 1) := by decide +kernel
theorem d1_6 : decode prog_31_method_1_code 6 = .ok (.putfield 7, 3) := by decide +kernel
theorem d1_9 : decode prog_31_method_1_code 9 = .ok (.aload_n 0, 1) := by decide +kernel
theorem d1_10 : decode prog_31_method_1_code 10 = .ok (.aload_n 2, 1) := by decide +kernel
theorem d1_11 : decode prog_31_method_1_code 11 = .ok (.putfield 13, 3) := by decide +kernel
theorem d1_14 : decode prog_31_method_1_code 14 = .ok (.return_, 1) := by decide +kernel
theorem pn_1 : plainName "com/example/folkweave/folkweave/model/IntGroups" = true := by first | (simp [plainName, overriddenIn]; done) | decide +kernel
theorem ef_1 (m : MethodId) (x0 : Addr) (x1 : Addr) (x2 : Addr) : entryFrame m #[(.ref x0), (.ref x1), (.ref x2)] 3 = mkF m 0 #[.val (.ref x0), .val (.ref x1), .val (.ref x2)] [] := by first | (simp [entryFrame, mkF, argsToLocals, Value.category]; done) | rfl
def Q1 (Z : State) (a1 : Addr) (a2 : Addr) (a3 : Addr) (u_starts_a1 : Value) (u_members_a1 : Value) (h0 : Heap) (n0 : Nat) (v : Option Value) (h : Heap) (L : List Loc) : Prop := v = none ∧ Fr n0 L ∧ Keep h0 h [a1] ∧ Exa Z h a1 "com/example/folkweave/folkweave/model/IntGroups" ∧ Fld Z h a1 "com/example/folkweave/folkweave/model/IntGroups" "starts" "[I" (.ref a2) ∧ Fld Z h a1 "com/example/folkweave/folkweave/model/IntGroups" "members" "[I" (.ref a3)
set_option maxRecDepth 65536 in
set_option maxHeartbeats 40000000 in
theorem rm1 (l : Launch) (Z : State) (a0 : Array Value) (hw : ∀ d ∈ tables_1, d.before a0 Z = true) (ws : List Jvm.Cond) (a1 : Addr) (a2 : Addr) (a3 : Addr) (u_starts_a1 : Value) (u_members_a1 : Value) (h0 : Heap) (n0 : Nat) (Z0 : n0 ≤ h0.size) (E_a1 : Exa Z h0 a1 "com/example/folkweave/folkweave/model/IntGroups") (F_starts_a1 : Fld Z h0 a1 "com/example/folkweave/folkweave/model/IntGroups" "starts" "[I" u_starts_a1) (g_a1 : n0 ≤ a1) (F_members_a1 : Fld Z h0 a1 "com/example/folkweave/folkweave/model/IntGroups" "members" "[I" u_members_a1) :
    MetFree l (⟨"com/example/folkweave/folkweave/model/IntGroups", "<init>", "([I[I)V"⟩ : MethodName) (head1 (Jvm.Cond.code (⟨"com/example/folkweave/folkweave/model/IntGroups", "<init>", "([I[I)V"⟩ : MethodName) prog_31_method_1_code 3 none :: ws) ({ frames := 1, cells := 0, slots := 0, locals := 12 } : Room)) (fun a U => a = #[(.ref a1), (.ref a2), (.ref a3)] ∧ Z.Warmed39 U.vm ∧ U.heap = h0) (fun _ _ _ _ _ => True) (fun _ U o U' => ∃ v L, o = .returned v ∧ Q1 Z a1 a2 a3 u_starts_a1 u_members_a1 h0 n0 v U'.heap L ∧ FrameEnd U o U' L ({ frames := 1, cells := 0, slots := 0, locals := 12 } : Room).cells ({ frames := 1, cells := 0, slots := 0, locals := 12 } : Room).slots) := by
  refine MetFree.of_bodySF (plainFor_of_name pn_1) hisR ?_
  intro p e s m args below meth c s₁ Bd hml0 hP hK
  obtain ⟨rfl, hZ, hh⟩ := hP
  have hx := Bd.exec
  have hby := Bd.bytes
  have hml : c.maxLocals = 3 := hml0
  have hown : s.vm.findClass "com/example/folkweave/folkweave/model/IntGroups" = some m.cls := findClass_of_methodNamed Bd.named
  have hnm := (name_of_methodNamed Bd.named Bd.method).1
  have X0 : Stand p l e ({ frames := 1, cells := 0, slots := 0, locals := 12 } : Room) s m #[(.ref a1), (.ref a2), (.ref a3)] below meth c s₁ [] 0 0 := Stand.of_body Bd
  have e0 : s₁.heap = h0 := by rw [← hh, Bd.state]; rfl
  have N0 := Fr.nil n0
  have pre0 : ∀ t, Steps p.tables e below (s₁.setTop (mkF m 0 #[.val (.ref a1), .val (.ref a2), .val (.ref a3)] [])) t → Steps p.tables e below (s₁.setTop (entryFrame m #[(.ref a1), (.ref a2), (.ref a3)] 3)) t := fun t k => castTop (ef_1 m a1 a2 a3) k
  obtain ⟨T4, X4, e4, st4⟩ := initO X0 hx hZ hown (hw _ (List.mem_of_getElem? (i := 7) rfl)) (hw _ (List.mem_of_getElem? (i := 8) rfl)) (hw _ (List.mem_of_getElem? (i := 9) rfl)) e0 (g := (mkF m 1 #[.val (.ref a1), .val (.ref a2), .val (.ref a3)] [(.ref a1)])) rfl (by rw [hml]; rfl) rfl (hb hby d1_1) (by decide) (W := 0) (by show 2 * 0 + _ ≤ _; exact Nat.le_of_eq rfl) (by decide)
  obtain ⟨T5, h5, X5, e5, W5, st5⟩ := putF X4 hx hZ hown (host := "") (Or.inl (hw _ (List.mem_of_getElem? (i := 10) rfl))) Via.refl e4 F_starts_a1 E_a1 (Or.inr ⟨(hw _ (List.mem_of_getElem? (i := 11) rfl)), rfl, hnm⟩) (hw _ (List.mem_of_getElem? (i := 2) rfl)) (ty := (.array .int)) (by decide) rfl rfl (g := (mkF m 6 #[.val (.ref a1), .val (.ref a2), .val (.ref a3)] [(.ref a2), (.ref a1)])) rfl rfl (hb hby d1_6)
  have Fw5 := F_starts_a1.same W5
  have K5 : Keep h0 h5 [a1] := (Keep.refl h0 [a1]).wr W5 (Or.inl (List.mem_of_getElem? (i := 0) rfl))
  have N5 := Fr.snoc X5 N0 g_a1
  obtain ⟨T6, h6, X6, e6, W6, st6⟩ := putF X5 hx hZ hown (host := "") (Or.inl (hw _ (List.mem_of_getElem? (i := 12) rfl))) Via.refl e5 (F_members_a1.other W5 (Or.inr (slot_ne (Or.inr (hw _ (List.mem_of_getElem? (i := 13) rfl))) (Or.inr (hw _ (List.mem_of_getElem? (i := 11) rfl))) (by decide) (t := (.array .int)) (t' := (.array .int)) (by decide) (by decide)))) (E_a1.wr W5) (Or.inr ⟨(hw _ (List.mem_of_getElem? (i := 13) rfl)), rfl, hnm⟩) (hw _ (List.mem_of_getElem? (i := 2) rfl)) (ty := (.array .int)) (by decide) rfl rfl (g := (mkF m 11 #[.val (.ref a1), .val (.ref a2), .val (.ref a3)] [(.ref a3), (.ref a1)])) rfl rfl (hb hby d1_11)
  have Fw6 := (F_members_a1.other W5 (Or.inr (slot_ne (Or.inr (hw _ (List.mem_of_getElem? (i := 13) rfl))) (Or.inr (hw _ (List.mem_of_getElem? (i := 11) rfl))) (by decide) (t := (.array .int)) (t' := (.array .int)) (by decide) (by decide)))).same W6
  have K6 : Keep h0 h6 [a1] := K5.wr W6 (Or.inl (List.mem_of_getElem? (i := 0) rfl))
  have N6 := Fr.snoc X6 N5 g_a1
  obtain ⟨fs, hr, hrun, hended, hW, hsame⟩ := X6.leave (v := none) (fun _ => rfl)
  refine ⟨_, _, pre0 _ ?_, hrun, hended, _, _, rfl, ?_, ⟨_, rfl⟩, hW, hsame.mono (by decide) (by decide)⟩
  · show Steps p.tables e below (s₁.setTop (mkF m 0 #[.val (.ref a1), .val (.ref a2), .val (.ref a3)] [])) _
    refine XS.aloadN X0.here hx rfl (hb hby d1_0) rfl rfl ?_
    show Steps p.tables e below (s₁.setTop (mkF m 1 #[.val (.ref a1), .val (.ref a2), .val (.ref a3)] [(.ref a1)])) _
    refine st4 _ ?_
    show Steps p.tables e below (T4.setTop (mkF m 4 #[.val (.ref a1), .val (.ref a2), .val (.ref a3)] [])) _
    refine XS.aloadN X4.here hx rfl (hb hby d1_4) rfl rfl ?_
    show Steps p.tables e below (T4.setTop (mkF m 5 #[.val (.ref a1), .val (.ref a2), .val (.ref a3)] [(.ref a1)])) _
    refine XS.aloadN X4.here hx rfl (hb hby d1_5) rfl rfl ?_
    show Steps p.tables e below (T4.setTop (mkF m 6 #[.val (.ref a1), .val (.ref a2), .val (.ref a3)] [(.ref a2), (.ref a1)])) _
    refine st5 _ ?_
    show Steps p.tables e below (T5.setTop (mkF m 9 #[.val (.ref a1), .val (.ref a2), .val (.ref a3)] [])) _
    refine XS.aloadN X5.here hx rfl (hb hby d1_9) rfl rfl ?_
    show Steps p.tables e below (T5.setTop (mkF m 10 #[.val (.ref a1), .val (.ref a2), .val (.ref a3)] [(.ref a1)])) _
    refine XS.aloadN X5.here hx rfl (hb hby d1_10) rfl rfl ?_
    show Steps p.tables e below (T5.setTop (mkF m 11 #[.val (.ref a1), .val (.ref a2), .val (.ref a3)] [(.ref a3), (.ref a1)])) _
    refine st6 _ ?_
    show Steps p.tables e below (T6.setTop (mkF m 14 #[.val (.ref a1), .val (.ref a2), .val (.ref a3)] [])) _
    exact X6.returnOut hx Bd.returns (hb hby d1_14) hr
  · show Q1 Z a1 a2 a3 u_starts_a1 u_members_a1 h0 n0 _ T6.heap _
    rw [e6]
    exact ⟨rfl, N6, K6, ((E_a1.wr W5).wr W6), (Fw5.other W6 (Or.inr (slot_ne (Or.inr (hw _ (List.mem_of_getElem? (i := 11) rfl))) (Or.inr (hw _ (List.mem_of_getElem? (i := 13) rfl))) (by decide) (t := (.array .int)) (t' := (.array .int)) (by decide) (by decide)))), Fw6⟩
theorem d3_0 : decode prog_31_method_4_code 0 = .ok (.aload_n 0, 1) := by decide +kernel
theorem d3_1 : decode prog_31_method_4_code 1 = .ok (.getfield 7, 3) := by decide +kernel
theorem d3_4 : decode prog_31_method_4_code 4 = .ok (.iload_n 1, 1) := by decide +kernel
theorem d3_5 : decode prog_31_method_4_code 5 = .ok (.iconst 1, 1) := by decide +kernel
theorem d3_6 : decode prog_31_method_4_code 6 = .ok (.iadd, 1) := by decide +kernel
theorem d3_7 : decode prog_31_method_4_code 7 = .ok (.iaload, 1) := by decide +kernel
theorem d3_8 : decode prog_31_method_4_code 8 = .ok (.aload_n 0, 1) := by decide +kernel
theorem d3_9 : decode prog_31_method_4_code 9 = .ok (.getfield 7, 3) := by decide +kernel
theorem d3_12 : decode prog_31_method_4_code 12 = .ok (.iload_n 1, 1) := by decide +kernel
theorem d3_13 : decode prog_31_method_4_code 13 = .ok (.iaload, 1) := by decide +kernel
theorem d3_14 : decode prog_31_method_4_code 14 = .ok (.isub, 1) := by decide +kernel
theorem d3_15 : decode prog_31_method_4_code 15 = .ok (.ireturn, 1) := by decide +kernel
theorem pn_3 : plainName "com/example/folkweave/folkweave/model/IntGroups" = true := by first | (simp [plainName, overriddenIn]; done) | decide +kernel
theorem ef_3 (m : MethodId) (x0 : Addr) (x1 : Int32) : entryFrame m #[(.ref x0), (.int x1)] 2 = mkF m 0 #[.val (.ref x0), .val (.int x1)] [] := by first | (simp [entryFrame, mkF, argsToLocals, Value.category]; done) | rfl
def Q3 (Z : State) (a1 : Addr) (p2 : Int32) (w3 : Addr) (w5 : Int32) (cl_w3 : Cell) (w7 : Int32) (h0 : Heap) (n0 : Nat) (v : Option Value) (h : Heap) (L : List Loc) : Prop := v = some (.int (w5 - w7)) ∧ Fr n0 L ∧ h = h0
set_option maxRecDepth 65536 in
set_option maxHeartbeats 40000000 in
theorem rm3 (l : Launch) (Z : State) (a0 : Array Value) (hw : ∀ d ∈ tables_1, d.before a0 Z = true) (ws : List Jvm.Cond) (a1 : Addr) (p2 : Int32) (w3 : Addr) (w5 : Int32) (cl_w3 : Cell) (w7 : Int32) (h0 : Heap) (n0 : Nat) (Z0 : n0 ≤ h0.size) (F_starts_a1 : Fld Z h0 a1 "com/example/folkweave/folkweave/model/IntGroups" "starts" "[I" (.ref w3)) (Ar_w3 : Arr Z h0 w3 cl_w3 .int) (hin7 : ¬ ((p2 + (1 : Int32)) < 0 ∨ cl_w3.slots.size ≤ ((p2 + (1 : Int32))).toNatClampNeg)) (hat7 : cl_w3.slots[((p2 + (1 : Int32))).toNatClampNeg]? = some (.int w5)) (hin13 : ¬ (p2 < 0 ∨ cl_w3.slots.size ≤ (p2).toNatClampNeg)) (hat13 : cl_w3.slots[(p2).toNatClampNeg]? = some (.int w7)) :
    MetFree l (⟨"com/example/folkweave/folkweave/model/IntGroups", "size", "(I)I"⟩ : MethodName) (head1 (Jvm.Cond.code (⟨"com/example/folkweave/folkweave/model/IntGroups", "size", "(I)I"⟩ : MethodName) prog_31_method_4_code 2 (some .int) :: ws) ({ frames := 0, cells := 0, slots := 0, locals := 0 } : Room)) (fun a U => a = #[(.ref a1), (.int p2)] ∧ Z.Warmed39 U.vm ∧ U.heap = h0) (fun _ _ _ _ _ => True) (fun _ U o U' => ∃ v L, o = .returned v ∧ Q3 Z a1 p2 w3 w5 cl_w3 w7 h0 n0 v U'.heap L ∧ FrameEnd U o U' L ({ frames := 0, cells := 0, slots := 0, locals := 0 } : Room).cells ({ frames := 0, cells := 0, slots := 0, locals := 0 } : Room).slots) := by
  refine MetFree.of_bodySF (plainFor_of_name pn_3) hisR ?_
  intro p e s m args below meth c s₁ Bd hml0 hP hK
  obtain ⟨rfl, hZ, hh⟩ := hP
  have hx := Bd.exec
  have hby := Bd.bytes
  have hml : c.maxLocals = 2 := hml0
  have hown : s.vm.findClass "com/example/folkweave/folkweave/model/IntGroups" = some m.cls := findClass_of_methodNamed Bd.named
  have hnm := (name_of_methodNamed Bd.named Bd.method).1
  have X0 : Stand p l e ({ frames := 0, cells := 0, slots := 0, locals := 0 } : Room) s m #[(.ref a1), (.int p2)] below meth c s₁ [] 0 0 := Stand.of_body Bd
  have e0 : s₁.heap = h0 := by rw [← hh, Bd.state]; rfl
  have N0 := Fr.nil n0
  have pre0 : ∀ t, Steps p.tables e below (s₁.setTop (mkF m 0 #[.val (.ref a1), .val (.int p2)] [])) t → Steps p.tables e below (s₁.setTop (entryFrame m #[(.ref a1), (.int p2)] 2)) t := fun t k => castTop (ef_3 m a1 p2) k
  obtain ⟨T4, X4, e4, st4⟩ := getF X0 hx hZ hown (host := "") (Or.inl (hw _ (List.mem_of_getElem? (i := 10) rfl))) Via.refl e0 F_starts_a1 (g := (mkF m 1 #[.val (.ref a1), .val (.int p2)] [(.ref a1)])) rfl rfl (hb hby d3_1)
  obtain ⟨T6, X6, e6, st6⟩ := getF X4 hx hZ hown (host := "") (Or.inl (hw _ (List.mem_of_getElem? (i := 10) rfl))) Via.refl e4 F_starts_a1 (g := (mkF m 9 #[.val (.ref a1), .val (.int p2)] [(.ref a1), (.int w5)])) rfl rfl (hb hby d3_9)
  obtain ⟨fs, hr, hrun, hended, hW, hsame⟩ := X6.leave (v := some (.int (w5 - w7))) (fun h => by rw [Bd.returns] at h; cases h)
  refine ⟨_, _, pre0 _ ?_, hrun, hended, _, _, rfl, ?_, ⟨_, rfl⟩, hW, hsame.mono (by decide) (by decide)⟩
  · show Steps p.tables e below (s₁.setTop (mkF m 0 #[.val (.ref a1), .val (.int p2)] [])) _
    refine XS.aloadN X0.here hx rfl (hb hby d3_0) rfl rfl ?_
    show Steps p.tables e below (s₁.setTop (mkF m 1 #[.val (.ref a1), .val (.int p2)] [(.ref a1)])) _
    refine st4 _ ?_
    show Steps p.tables e below (T4.setTop (mkF m 4 #[.val (.ref a1), .val (.int p2)] [(.ref w3)])) _
    refine XS.iloadN X4.here hx rfl (hb hby d3_4) rfl ?_
    show Steps p.tables e below (T4.setTop (mkF m 5 #[.val (.ref a1), .val (.int p2)] [(.int p2), (.ref w3)])) _
    refine XS.iconst X4.here hx rfl (hb hby d3_5) ?_
    show Steps p.tables e below (T4.setTop (mkF m 6 #[.val (.ref a1), .val (.int p2)] [(.int (1 : Int32)), (.int p2), (.ref w3)])) _
    refine XS.iadd X4.here hx rfl (hb hby d3_6) rfl ?_
    show Steps p.tables e below (T4.setTop (mkF m 7 #[.val (.ref a1), .val (.int p2)] [(.int (p2 + (1 : Int32))), (.ref w3)])) _
    refine X4.iaload hx (j := (p2 + (1 : Int32))) (v := (.int w5)) (by rw [e4]; exact Ar_w3.1) (State.isArrayOf_alike hZ.alike Ar_w3.2.1) Ar_w3.2.2 hin7 hat7 (g := (mkF m 7 #[.val (.ref a1), .val (.int p2)] [(.int (p2 + (1 : Int32))), (.ref w3)])) rfl rfl (hb hby d3_7) _ ?_
    show Steps p.tables e below (T4.setTop (mkF m 8 #[.val (.ref a1), .val (.int p2)] [(.int w5)])) _
    refine XS.aloadN X4.here hx rfl (hb hby d3_8) rfl rfl ?_
    show Steps p.tables e below (T4.setTop (mkF m 9 #[.val (.ref a1), .val (.int p2)] [(.ref a1), (.int w5)])) _
    refine st6 _ ?_
    show Steps p.tables e below (T6.setTop (mkF m 12 #[.val (.ref a1), .val (.int p2)] [(.ref w3), (.int w5)])) _
    refine XS.iloadN X6.here hx rfl (hb hby d3_12) rfl ?_
    show Steps p.tables e below (T6.setTop (mkF m 13 #[.val (.ref a1), .val (.int p2)] [(.int p2), (.ref w3), (.int w5)])) _
    refine X6.iaload hx (j := p2) (v := (.int w7)) (by rw [e6]; exact Ar_w3.1) (State.isArrayOf_alike hZ.alike Ar_w3.2.1) Ar_w3.2.2 hin13 hat13 (g := (mkF m 13 #[.val (.ref a1), .val (.int p2)] [(.int p2), (.ref w3), (.int w5)])) rfl rfl (hb hby d3_13) _ ?_
    show Steps p.tables e below (T6.setTop (mkF m 14 #[.val (.ref a1), .val (.int p2)] [(.int w7), (.int w5)])) _
    refine XS.isub X6.here hx rfl (hb hby d3_14) rfl ?_
    show Steps p.tables e below (T6.setTop (mkF m 15 #[.val (.ref a1), .val (.int p2)] [(.int (w5 - w7))])) _
    exact retI X6 hx Bd.returns (hb hby d3_15) hr
  · show Q3 Z a1 p2 w3 w5 cl_w3 w7 h0 n0 _ T6.heap _
    rw [e6]
    exact ⟨rfl, N0, rfl⟩
theorem pn_0 : plainName "com/example/folkweave/folkweave/model/IntGroupsSizePinLaw" = true := by first | (simp [plainName, overriddenIn]; done) | decide +kernel
theorem pd_0_0 : parseMethodDescriptor "([I[I)V" = some ⟨[(.array .int), (.array .int)], none⟩ := by decide +kernel
theorem pd_0_2 : parseMethodDescriptor "(I)I" = some ⟨[.int], some .int⟩ := by decide +kernel
theorem ef_0 (m : MethodId) (x0 : Int32) (x1 : Int32) (x2 : Int32) (x3 : Int32) : entryFrame m #[(.int x0), (.int x1), (.int x2), (.int x3)] maxLocals = mkF m 0 #[.val (.int x0), .val (.int x1), .val (.int x2), .val (.int x3), .unset, .unset, .unset, .unset, .unset, .unset, .unset] [] := by first | (simp [entryFrame, mkF, argsToLocals, Value.category, maxLocals]; done) | rfl
def Q0 (Z : State) (p1 : Int32) (p2 : Int32) (p3 : Int32) (p4 : Int32) (h0 : Heap) (n0 : Nat) (v : Option Value) (h : Heap) (L : List Loc) : Prop := v = some (.int (1 : Int32)) ∧ Fr n0 L
set_option maxRecDepth 65536 in
set_option maxHeartbeats 40000000 in
theorem rm0 (l : Launch) (Z : State) (a0 : Array Value) (hw : ∀ d ∈ tables_1, d.before a0 Z = true) (ws : List Jvm.Cond) (p1 : Int32) (p2 : Int32) (p3 : Int32) (p4 : Int32) (h0 : Heap) (n0 : Nat) (Z0 : n0 ≤ h0.size) :
    MetFree l x (head1 (Jvm.Cond.code x code maxLocals ret :: ws) room_1) (fun a U => a = #[(.int p1), (.int p2), (.int p3), (.int p4)] ∧ Z.Warmed39 U.vm ∧ U.heap = h0) (fun _ _ _ _ _ => True) (fun _ U o U' => ∃ v L, o = .returned v ∧ Q0 Z p1 p2 p3 p4 h0 n0 v U'.heap L ∧ FrameEnd U o U' L room_1.cells room_1.slots) := by
  refine MetFree.of_bodySF (plainFor_of_name pn_0) hisR ?_
  intro p e s m args below meth c s₁ Bd hml0 hP hK
  obtain ⟨rfl, hZ, hh⟩ := hP
  have hx := Bd.exec
  have hby := Bd.bytes
  have hml : c.maxLocals = 11 := hml0
  have hown : s.vm.findClass "com/example/folkweave/folkweave/model/IntGroupsSizePinLaw" = some m.cls := findClass_of_methodNamed Bd.named
  have hnm := (name_of_methodNamed Bd.named Bd.method).1
  have X0 : Stand p l e room_1 s m #[(.int p1), (.int p2), (.int p3), (.int p4)] below meth c s₁ [] 0 0 := Stand.of_body Bd
  have e0 : s₁.heap = h0 := by rw [← hh, Bd.state]; rfl
  have N0 := Fr.nil n0
  have pre0 : ∀ t, Steps p.tables e below (s₁.setTop (mkF m 0 #[.val (.int p1), .val (.int p2), .val (.int p3), .val (.int p4), .unset, .unset, .unset, .unset, .unset, .unset, .unset] [])) t → Steps p.tables e below (s₁.setTop (entryFrame m #[(.int p1), (.int p2), (.int p3), (.int p4)] maxLocals)) t := fun t k => castTop (ef_0 m p1 p2 p3 p4) k
  obtain ⟨T5, h5, k5, X5, e5, E5, A5, st5⟩ := newP X0 hx hZ (hw _ (List.mem_of_getElem? (i := 0) rfl)) e0 (g := (mkF m 25 #[.val (.int p1), .val (.int p2), .val (.int p3), .val (.int p4), .val (.int (p1 &&& (15 : Int32))), .val (.int (p2 &&& (15 : Int32))), .val (.int (p3 &&& (15 : Int32))), .val (.int (p4 &&& (15 : Int32))), .unset, .unset, .unset] [(.int (5 : Int32))])) rfl (hb hby at_25) rfl (by decide) (cap := 5) (by decide) (by decide) (by decide) (by decide)
  obtain ⟨b5, g5⟩ : ∃ z, z = h0.size := ⟨_, rfl⟩
  rw [← g5] at A5 st5
  have V_b5 : Arv Z h5 b5 k5 .int (5 : Int32) [(.int (0 : Int32)), (.int (0 : Int32)), (.int (0 : Int32)), (.int (0 : Int32)), (.int (0 : Int32))] (.int (0 : Int32)) := (Arv.new A5 (by decide)).pad (pad_rep [] (.int (0 : Int32)) 5)
  have g_b5 : n0 ≤ b5 := Nat.le_trans Z0 (Nat.le_of_eq g5.symm)
  have sz_b5 : h0.size ≤ b5 := (Nat.le_trans (Keep.refl h0 []).1 (Nat.le_of_eq g5.symm))
  have K5 : Keep h0 h5 [] := (Keep.refl h0 []).ext E5
  obtain ⟨cl_b5_33, Ar_b5, q_b5, S_b5, N_b5, H_b5, G_b5⟩ := V_b5
  have hin33 : ¬ ((0 : Int32) < 0 ∨ cl_b5_33.slots.size ≤ ((0 : Int32)).toNatClampNeg) := inb_of S_b5 ⟨by decide, by decide⟩
  obtain ⟨T6, h6, X6, e6, W6, st6⟩ := stI X5 hx hZ e5 Ar_b5 (j := (0 : Int32)) hin33 (g := (mkF m 33 #[.val (.int p1), .val (.int p2), .val (.int p3), .val (.int p4), .val (.int (p1 &&& (15 : Int32))), .val (.int (p2 &&& (15 : Int32))), .val (.int (p3 &&& (15 : Int32))), .val (.int (p4 &&& (15 : Int32))), .val (.ref b5), .unset, .unset] [(.int (0 : Int32)), (.int (0 : Int32)), (.ref b5)])) rfl rfl (hb hby at_33)
  have V_b5_6 := Arv.set Ar_b5 q_b5 S_b5 N_b5 H_b5 G_b5 rfl W6 0 rfl (Nat.le_of_ble_eq_true rfl)
  have K6 : Keep h0 h6 [] := K5.wr W6 (Or.inr sz_b5)
  have N6 := Fr.snoc X6 N0 g_b5
  obtain ⟨cl_b5_39, Ar_b5, q_b5, S_b5, N_b5, H_b5, G_b5⟩ := V_b5_6
  have hin39 : ¬ ((1 : Int32) < 0 ∨ cl_b5_39.slots.size ≤ ((1 : Int32)).toNatClampNeg) := inb_of S_b5 ⟨by decide, by decide⟩
  obtain ⟨T7, h7, X7, e7, W7, st7⟩ := stI X6 hx hZ e6 Ar_b5 (j := (1 : Int32)) hin39 (g := (mkF m 39 #[.val (.int p1), .val (.int p2), .val (.int p3), .val (.int p4), .val (.int (p1 &&& (15 : Int32))), .val (.int (p2 &&& (15 : Int32))), .val (.int (p3 &&& (15 : Int32))), .val (.int (p4 &&& (15 : Int32))), .val (.ref b5), .unset, .unset] [(.int (p1 &&& (15 : Int32))), (.int (1 : Int32)), (.ref b5)])) rfl rfl (hb hby at_39)
  have V_b5_7 := Arv.set Ar_b5 q_b5 S_b5 N_b5 H_b5 G_b5 rfl W7 1 rfl (Nat.le_of_ble_eq_true rfl)
  have K7 : Keep h0 h7 [] := K6.wr W7 (Or.inr sz_b5)
  have N7 := Fr.snoc X7 N6 g_b5
  obtain ⟨cl_b5_48, Ar_b5, q_b5, S_b5, N_b5, H_b5, G_b5⟩ := V_b5_7
  have hin48 : ¬ ((2 : Int32) < 0 ∨ cl_b5_48.slots.size ≤ ((2 : Int32)).toNatClampNeg) := inb_of S_b5 ⟨by decide, by decide⟩
  obtain ⟨T8, h8, X8, e8, W8, st8⟩ := stI X7 hx hZ e7 Ar_b5 (j := (2 : Int32)) hin48 (g := (mkF m 48 #[.val (.int p1), .val (.int p2), .val (.int p3), .val (.int p4), .val (.int (p1 &&& (15 : Int32))), .val (.int (p2 &&& (15 : Int32))), .val (.int (p3 &&& (15 : Int32))), .val (.int (p4 &&& (15 : Int32))), .val (.ref b5), .unset, .unset] [(.int ((p1 &&& (15 : Int32)) + (p2 &&& (15 : Int32)))), (.int (2 : Int32)), (.ref b5)])) rfl rfl (hb hby at_48)
  have V_b5_8 := Arv.set Ar_b5 q_b5 S_b5 N_b5 H_b5 G_b5 rfl W8 2 rfl (Nat.le_of_ble_eq_true rfl)
  have K8 : Keep h0 h8 [] := K7.wr W8 (Or.inr sz_b5)
  have N8 := Fr.snoc X8 N7 g_b5
  obtain ⟨cl_b5_60, Ar_b5, q_b5, S_b5, N_b5, H_b5, G_b5⟩ := V_b5_8
  have hin60 : ¬ ((3 : Int32) < 0 ∨ cl_b5_60.slots.size ≤ ((3 : Int32)).toNatClampNeg) := inb_of S_b5 ⟨by decide, by decide⟩
  obtain ⟨T9, h9, X9, e9, W9, st9⟩ := stI X8 hx hZ e8 Ar_b5 (j := (3 : Int32)) hin60 (g := (mkF m 60 #[.val (.int p1), .val (.int p2), .val (.int p3), .val (.int p4), .val (.int (p1 &&& (15 : Int32))), .val (.int (p2 &&& (15 : Int32))), .val (.int (p3 &&& (15 : Int32))), .val (.int (p4 &&& (15 : Int32))), .val (.ref b5), .unset, .unset] [(.int (((p1 &&& (15 : Int32)) + (p2 &&& (15 : Int32))) + (p3 &&& (15 : Int32)))), (.int (3 : Int32)), (.ref b5)])) rfl rfl (hb hby at_60)
  have V_b5_9 := Arv.set Ar_b5 q_b5 S_b5 N_b5 H_b5 G_b5 rfl W9 3 rfl (Nat.le_of_ble_eq_true rfl)
  have K9 : Keep h0 h9 [] := K8.wr W9 (Or.inr sz_b5)
  have N9 := Fr.snoc X9 N8 g_b5
  obtain ⟨cl_b5_75, Ar_b5, q_b5, S_b5, N_b5, H_b5, G_b5⟩ := V_b5_9
  have hin75 : ¬ ((4 : Int32) < 0 ∨ cl_b5_75.slots.size ≤ ((4 : Int32)).toNatClampNeg) := inb_of S_b5 ⟨by decide, by decide⟩
  obtain ⟨T10, h10, X10, e10, W10, st10⟩ := stI X9 hx hZ e9 Ar_b5 (j := (4 : Int32)) hin75 (g := (mkF m 75 #[.val (.int p1), .val (.int p2), .val (.int p3), .val (.int p4), .val (.int (p1 &&& (15 : Int32))), .val (.int (p2 &&& (15 : Int32))), .val (.int (p3 &&& (15 : Int32))), .val (.int (p4 &&& (15 : Int32))), .val (.ref b5), .unset, .unset] [(.int ((((p1 &&& (15 : Int32)) + (p2 &&& (15 : Int32))) + (p3 &&& (15 : Int32))) + (p4 &&& (15 : Int32)))), (.int (4 : Int32)), (.ref b5)])) rfl rfl (hb hby at_75)
  have V_b5_10 := Arv.set Ar_b5 q_b5 S_b5 N_b5 H_b5 G_b5 rfl W10 4 rfl (Nat.le_of_ble_eq_true rfl)
  have K10 : Keep h0 h10 [] := K9.wr W10 (Or.inr sz_b5)
  have N10 := Fr.snoc X10 N9 g_b5
  obtain ⟨T11, h11, k11, X11, e11, E11, A11, st11⟩ := newP X10 hx hZ (hw _ (List.mem_of_getElem? (i := 0) rfl)) e10 (g := (mkF m 78 #[.val (.int p1), .val (.int p2), .val (.int p3), .val (.int p4), .val (.int (p1 &&& (15 : Int32))), .val (.int (p2 &&& (15 : Int32))), .val (.int (p3 &&& (15 : Int32))), .val (.int (p4 &&& (15 : Int32))), .val (.ref b5), .unset, .unset] [(.int (60 : Int32))])) rfl (hb hby at_78) rfl (by decide) (cap := 60) (by decide) (by decide) (by decide) (by decide)
  obtain ⟨b11, g11⟩ : ∃ z, z = h10.size := ⟨_, rfl⟩
  rw [← g11] at A11 st11
  have V_b11 := Arv.new A11 (by decide)
  have g_b11 : n0 ≤ b11 := Nat.le_trans (Nat.le_trans (Nat.le_trans (Nat.le_trans (Nat.le_trans (Nat.le_trans (Nat.le_trans Z0 E5.1) (Keep.of_wr W6).1) (Keep.of_wr W7).1) (Keep.of_wr W8).1) (Keep.of_wr W9).1) (Keep.of_wr W10).1) (Nat.le_of_eq g11.symm)
  have sz_b11 : h0.size ≤ b11 := (Nat.le_trans K10.1 (Nat.le_of_eq g11.symm))
  have K11 : Keep h0 h11 [] := K10.ext E11
  obtain ⟨T12, h12, X12, e12, E12, A12, D12, -, st12⟩ := newO X11 hx hZ hown (hw _ (List.mem_of_getElem? (i := 1) rfl)) (hw _ (List.mem_of_getElem? (i := 2) rfl)) (hw _ (List.mem_of_getElem? (i := 3) rfl)) e11 (g := (mkF m 82 #[.val (.int p1), .val (.int p2), .val (.int p3), .val (.int p4), .val (.int (p1 &&& (15 : Int32))), .val (.int (p2 &&& (15 : Int32))), .val (.int (p3 &&& (15 : Int32))), .val (.int (p4 &&& (15 : Int32))), .val (.ref b5), .val (.ref b11), .unset] [])) rfl (hb hby at_82) (by decide) (by decide)
  obtain ⟨b12, g12⟩ : ∃ z, z = h11.size := ⟨_, rfl⟩
  rw [← g12] at A12 D12 st12
  have F_starts_b12 : Fld Z h12 b12 "com/example/folkweave/folkweave/model/IntGroups" "starts" "[I" .null := D12 (Or.inr (hw _ (List.mem_of_getElem? (i := 11) rfl))) (ty := (.array .int)) (by decide)
  have F_members_b12 : Fld Z h12 b12 "com/example/folkweave/folkweave/model/IntGroups" "members" "[I" .null := D12 (Or.inr (hw _ (List.mem_of_getElem? (i := 13) rfl))) (ty := (.array .int)) (by decide)
  have E_b12 := A12
  have g_b12 : n0 ≤ b12 := Nat.le_trans (Nat.le_trans (Nat.le_trans (Nat.le_trans (Nat.le_trans (Nat.le_trans (Nat.le_trans (Nat.le_trans Z0 E5.1) (Keep.of_wr W6).1) (Keep.of_wr W7).1) (Keep.of_wr W8).1) (Keep.of_wr W9).1) (Keep.of_wr W10).1) E11.1) (Nat.le_of_eq g12.symm)
  have sz_b12 : h0.size ≤ b12 := (Nat.le_trans K11.1 (Nat.le_of_eq g12.symm))
  have K12 : Keep h0 h12 [] := K11.ext E12
  obtain ⟨_, _, ⟨T13, L13, k13, n13⟩, -, X13, ⟨Lc13, hQ13, l13, y13, z13⟩, st13⟩ := X12.specialBack hx (y := (⟨"com/example/folkweave/folkweave/model/IntGroups", "<init>", "([I[I)V"⟩ : MethodName)) rfl hown (mvT hZ (hw _ (List.mem_of_getElem? (i := 4) rfl))) (mvT hZ (hw _ (List.mem_of_getElem? (i := 5) rfl))) (mvT hZ (hw _ (List.mem_of_getElem? (i := 6) rfl))) (by decide) (backOf (W := 1) (rm1 l Z a0 hw [] b12 b5 b11 .null .null h12 n0 (Nat.le_trans Z0 K12.1) E_b12 F_starts_b12 g_b12 F_members_b12) hZ (hw _ (List.mem_of_getElem? (i := 6) rfl)) (hw _ (List.mem_of_getElem? (i := 3) rfl)) (by decide) (by decide)) (g := (mkF m 90 #[.val (.int p1), .val (.int p2), .val (.int p3), .val (.int p4), .val (.int (p1 &&& (15 : Int32))), .val (.int (p2 &&& (15 : Int32))), .val (.int (p3 &&& (15 : Int32))), .val (.int (p4 &&& (15 : Int32))), .val (.ref b5), .val (.ref b11), .unset] [(.ref b11), (.ref b5), (.ref b12), (.ref b12)])) rfl (by rw [hml]; rfl) (Steps.refl _) (a := b12) (argsL := [(.ref b5), (.ref b11)]) (rest := [(.ref b12)]) (lenOf pd_0_0 rfl) rfl (by show 2 * 0 + _ ≤ _; exact Nat.le_of_eq rfl) (hb hby at_90) (fun _ _ => ⟨rfl, e12, (by decide : 3 + 0 ≤ _), (by decide : 67 + 0 ≤ _)⟩)
  dsimp only [Pt.U, Pt.locs, Pt.cells, Pt.slots] at X13 l13 y13 z13 st13 hQ13
  subst l13 y13 z13
  obtain ⟨rfl, N13q, K13, Ex13, Fs13, Fm13⟩ := hQ13
  have N13 := Fr.app N10 N13q
  have Zc13 : n0 ≤ T13.heap.size := Nat.le_trans (Nat.le_trans Z0 K12.1) K13.1
  have V13 := ((V_b5_10.ext E11).ext E12).keep K13 (ninS (Nat.ne_of_lt (Nat.lt_of_lt_of_le (V_b5_10.ext E11).lt (Nat.le_of_eq g12.symm))) nin0)
  obtain ⟨cl, Ar13, -, Sz, Nn, Hh, -⟩ := V13
  obtain ⟨cq14, kq14, q14a, q14b, q14c⟩ := isOf hZ rfl (E_b12.keep K13)
  obtain ⟨_, _, ⟨T14, L14, k14, n14⟩, -, X14, ⟨Lc14, hQ14, l14, y14, z14⟩, st14⟩ := X13.virtualBack hx (y := (⟨"com/example/folkweave/folkweave/model/IntGroups", "size", "(I)I"⟩ : MethodName)) (z := (⟨"com/example/folkweave/folkweave/model/IntGroups", "size", "(I)I"⟩ : MethodName)) hown (mvT hZ (hw _ (List.mem_of_getElem? (i := 14) rfl))) (mvT hZ (hw _ (List.mem_of_getElem? (i := 15) rfl))) (notFace_of_selects (args := #[]) (mvT hZ (hw _ (List.mem_of_getElem? (i := 17) rfl)))) (mvT hZ (hw _ (List.mem_of_getElem? (i := 17) rfl))) (mvT hZ (hw _ (List.mem_of_getElem? (i := 16) rfl))) (by decide) (backOf (W := 0) (rm3 l Z a0 hw [] b12 (0 : Int32) b5 (p1 &&& (15 : Int32)) cl (0 : Int32) T13.heap n0 Zc13 Fs13 Ar13 (inb_of Sz ⟨by decide, by decide⟩) (by rw [show ((0 : Int32) + (1 : Int32)).toNatClampNeg = 1 from by decide]; exact Hh 1 (by rw [Sz]; decide)) (inb_of Sz ⟨by decide, by decide⟩) (by rw [show (0 : Int32).toNatClampNeg = 0 from by decide]; exact Hh 0 (by rw [Sz]; decide))) hZ (hw _ (List.mem_of_getElem? (i := 18) rfl)) (hw _ (List.mem_of_getElem? (i := 3) rfl)) (by decide) (by decide)) q14a q14c (g := (mkF m 98 #[.val (.int p1), .val (.int p2), .val (.int p3), .val (.int p4), .val (.int (p1 &&& (15 : Int32))), .val (.int (p2 &&& (15 : Int32))), .val (.int (p3 &&& (15 : Int32))), .val (.int (p4 &&& (15 : Int32))), .val (.ref b5), .val (.ref b11), .val (.ref b12)] [(.int (0 : Int32)), (.ref b12)])) rfl (by rw [hml]; rfl) (Steps.refl _) (argsL := [(.int (0 : Int32))]) (rest := []) (lenOf pd_0_2 rfl) rfl (by show 2 * 0 + _ ≤ _; exact Nat.le_of_eq rfl) (hb hby at_98) (fun _ _ => ⟨rfl, rfl, (by decide : 3 + 0 ≤ _), (by decide : 67 + 0 ≤ _)⟩)
  dsimp only [Pt.U, Pt.locs, Pt.cells, Pt.slots] at X14 l14 y14 z14 st14 hQ14
  subst l14 y14 z14
  obtain ⟨rfl, N14q, eq14⟩ := hQ14
  have N14 := Fr.app N13 N14q
  have Zc14 : n0 ≤ T14.heap.size := by rw [eq14]; exact Zc13
  have K14 : Keep T13.heap T14.heap [] := by rw [eq14]; exact Keep.refl _ _
  have Fs14 : Fld Z T14.heap b12 "com/example/folkweave/folkweave/model/IntGroups" "starts" "[I" (.ref b5) := by rw [eq14]; exact Fs13
  have Ar14 : Arr Z T14.heap b5 cl .int := by rw [eq14]; exact Ar13
  obtain ⟨cq15, kq15, q15a, q15b, q15c⟩ := isOf hZ rfl ((E_b12.keep K13).keep K14)
  obtain ⟨_, _, ⟨T15, L15, k15, n15⟩, -, X15, ⟨Lc15, hQ15, l15, y15, z15⟩, st15⟩ := X14.virtualBack hx (y := (⟨"com/example/folkweave/folkweave/model/IntGroups", "size", "(I)I"⟩ : MethodName)) (z := (⟨"com/example/folkweave/folkweave/model/IntGroups", "size", "(I)I"⟩ : MethodName)) hown (mvT hZ (hw _ (List.mem_of_getElem? (i := 14) rfl))) (mvT hZ (hw _ (List.mem_of_getElem? (i := 15) rfl))) (notFace_of_selects (args := #[]) (mvT hZ (hw _ (List.mem_of_getElem? (i := 17) rfl)))) (mvT hZ (hw _ (List.mem_of_getElem? (i := 17) rfl))) (mvT hZ (hw _ (List.mem_of_getElem? (i := 16) rfl))) (by decide) (backOf (W := 0) (rm3 l Z a0 hw [] b12 (1 : Int32) b5 ((p1 &&& (15 : Int32)) + (p2 &&& (15 : Int32))) cl (p1 &&& (15 : Int32)) T14.heap n0 Zc14 Fs14 Ar14 (inb_of Sz ⟨by decide, by decide⟩) (by rw [show ((1 : Int32) + (1 : Int32)).toNatClampNeg = 2 from by decide]; exact Hh 2 (by rw [Sz]; decide)) (inb_of Sz ⟨by decide, by decide⟩) (by rw [show (1 : Int32).toNatClampNeg = 1 from by decide]; exact Hh 1 (by rw [Sz]; decide))) hZ (hw _ (List.mem_of_getElem? (i := 18) rfl)) (hw _ (List.mem_of_getElem? (i := 3) rfl)) (by decide) (by decide)) q15a q15c (g := (mkF m 109 #[.val (.int p1), .val (.int p2), .val (.int p3), .val (.int p4), .val (.int (p1 &&& (15 : Int32))), .val (.int (p2 &&& (15 : Int32))), .val (.int (p3 &&& (15 : Int32))), .val (.int (p4 &&& (15 : Int32))), .val (.ref b5), .val (.ref b11), .val (.ref b12)] [(.int (1 : Int32)), (.ref b12)])) rfl (by rw [hml]; rfl) (Steps.refl _) (argsL := [(.int (1 : Int32))]) (rest := []) (lenOf pd_0_2 rfl) rfl (by show 2 * 0 + _ ≤ _; exact Nat.le_of_eq rfl) (hb hby at_109) (fun _ _ => ⟨rfl, rfl, (by decide : 3 + 0 ≤ _), (by decide : 67 + 0 ≤ _)⟩)
  dsimp only [Pt.U, Pt.locs, Pt.cells, Pt.slots] at X15 l15 y15 z15 st15 hQ15
  subst l15 y15 z15
  obtain ⟨rfl, N15q, eq15⟩ := hQ15
  have N15 := Fr.app N14 N15q
  have Zc15 : n0 ≤ T15.heap.size := by rw [eq15]; exact Zc14
  have K15 : Keep T14.heap T15.heap [] := by rw [eq15]; exact Keep.refl _ _
  have Fs15 : Fld Z T15.heap b12 "com/example/folkweave/folkweave/model/IntGroups" "starts" "[I" (.ref b5) := by rw [eq15]; exact Fs14
  have Ar15 : Arr Z T15.heap b5 cl .int := by rw [eq15]; exact Ar14
  obtain ⟨cq16, kq16, q16a, q16b, q16c⟩ := isOf hZ rfl (((E_b12.keep K13).keep K14).keep K15)
  obtain ⟨_, _, ⟨T16, L16, k16, n16⟩, -, X16, ⟨Lc16, hQ16, l16, y16, z16⟩, st16⟩ := X15.virtualBack hx (y := (⟨"com/example/folkweave/folkweave/model/IntGroups", "size", "(I)I"⟩ : MethodName)) (z := (⟨"com/example/folkweave/folkweave/model/IntGroups", "size", "(I)I"⟩ : MethodName)) hown (mvT hZ (hw _ (List.mem_of_getElem? (i := 14) rfl))) (mvT hZ (hw _ (List.mem_of_getElem? (i := 15) rfl))) (notFace_of_selects (args := #[]) (mvT hZ (hw _ (List.mem_of_getElem? (i := 17) rfl)))) (mvT hZ (hw _ (List.mem_of_getElem? (i := 17) rfl))) (mvT hZ (hw _ (List.mem_of_getElem? (i := 16) rfl))) (by decide) (backOf (W := 0) (rm3 l Z a0 hw [] b12 (2 : Int32) b5 (((p1 &&& (15 : Int32)) + (p2 &&& (15 : Int32))) + (p3 &&& (15 : Int32))) cl ((p1 &&& (15 : Int32)) + (p2 &&& (15 : Int32))) T15.heap n0 Zc15 Fs15 Ar15 (inb_of Sz ⟨by decide, by decide⟩) (by rw [show ((2 : Int32) + (1 : Int32)).toNatClampNeg = 3 from by decide]; exact Hh 3 (by rw [Sz]; decide)) (inb_of Sz ⟨by decide, by decide⟩) (by rw [show (2 : Int32).toNatClampNeg = 2 from by decide]; exact Hh 2 (by rw [Sz]; decide))) hZ (hw _ (List.mem_of_getElem? (i := 18) rfl)) (hw _ (List.mem_of_getElem? (i := 3) rfl)) (by decide) (by decide)) q16a q16c (g := (mkF m 120 #[.val (.int p1), .val (.int p2), .val (.int p3), .val (.int p4), .val (.int (p1 &&& (15 : Int32))), .val (.int (p2 &&& (15 : Int32))), .val (.int (p3 &&& (15 : Int32))), .val (.int (p4 &&& (15 : Int32))), .val (.ref b5), .val (.ref b11), .val (.ref b12)] [(.int (2 : Int32)), (.ref b12)])) rfl (by rw [hml]; rfl) (Steps.refl _) (argsL := [(.int (2 : Int32))]) (rest := []) (lenOf pd_0_2 rfl) rfl (by show 2 * 0 + _ ≤ _; exact Nat.le_of_eq rfl) (hb hby at_120) (fun _ _ => ⟨rfl, rfl, (by decide : 3 + 0 ≤ _), (by decide : 67 + 0 ≤ _)⟩)
  dsimp only [Pt.U, Pt.locs, Pt.cells, Pt.slots] at X16 l16 y16 z16 st16 hQ16
  subst l16 y16 z16
  obtain ⟨rfl, N16q, eq16⟩ := hQ16
  have N16 := Fr.app N15 N16q
  have Zc16 : n0 ≤ T16.heap.size := by rw [eq16]; exact Zc15
  have K16 : Keep T15.heap T16.heap [] := by rw [eq16]; exact Keep.refl _ _
  have Fs16 : Fld Z T16.heap b12 "com/example/folkweave/folkweave/model/IntGroups" "starts" "[I" (.ref b5) := by rw [eq16]; exact Fs15
  have Ar16 : Arr Z T16.heap b5 cl .int := by rw [eq16]; exact Ar15
  obtain ⟨cq17, kq17, q17a, q17b, q17c⟩ := isOf hZ rfl ((((E_b12.keep K13).keep K14).keep K15).keep K16)
  obtain ⟨_, _, ⟨T17, L17, k17, n17⟩, -, X17, ⟨Lc17, hQ17, l17, y17, z17⟩, st17⟩ := X16.virtualBack hx (y := (⟨"com/example/folkweave/folkweave/model/IntGroups", "size", "(I)I"⟩ : MethodName)) (z := (⟨"com/example/folkweave/folkweave/model/IntGroups", "size", "(I)I"⟩ : MethodName)) hown (mvT hZ (hw _ (List.mem_of_getElem? (i := 14) rfl))) (mvT hZ (hw _ (List.mem_of_getElem? (i := 15) rfl))) (notFace_of_selects (args := #[]) (mvT hZ (hw _ (List.mem_of_getElem? (i := 17) rfl)))) (mvT hZ (hw _ (List.mem_of_getElem? (i := 17) rfl))) (mvT hZ (hw _ (List.mem_of_getElem? (i := 16) rfl))) (by decide) (backOf (W := 0) (rm3 l Z a0 hw [] b12 (3 : Int32) b5 ((((p1 &&& (15 : Int32)) + (p2 &&& (15 : Int32))) + (p3 &&& (15 : Int32))) + (p4 &&& (15 : Int32))) cl (((p1 &&& (15 : Int32)) + (p2 &&& (15 : Int32))) + (p3 &&& (15 : Int32))) T16.heap n0 Zc16 Fs16 Ar16 (inb_of Sz ⟨by decide, by decide⟩) (by rw [show ((3 : Int32) + (1 : Int32)).toNatClampNeg = 4 from by decide]; exact Hh 4 (by rw [Sz]; decide)) (inb_of Sz ⟨by decide, by decide⟩) (by rw [show (3 : Int32).toNatClampNeg = 3 from by decide]; exact Hh 3 (by rw [Sz]; decide))) hZ (hw _ (List.mem_of_getElem? (i := 18) rfl)) (hw _ (List.mem_of_getElem? (i := 3) rfl)) (by decide) (by decide)) q17a q17c (g := (mkF m 131 #[.val (.int p1), .val (.int p2), .val (.int p3), .val (.int p4), .val (.int (p1 &&& (15 : Int32))), .val (.int (p2 &&& (15 : Int32))), .val (.int (p3 &&& (15 : Int32))), .val (.int (p4 &&& (15 : Int32))), .val (.ref b5), .val (.ref b11), .val (.ref b12)] [(.int (3 : Int32)), (.ref b12)])) rfl (by rw [hml]; rfl) (Steps.refl _) (argsL := [(.int (3 : Int32))]) (rest := []) (lenOf pd_0_2 rfl) rfl (by show 2 * 0 + _ ≤ _; exact Nat.le_of_eq rfl) (hb hby at_131) (fun _ _ => ⟨rfl, rfl, (by decide : 3 + 0 ≤ _), (by decide : 67 + 0 ≤ _)⟩)
  dsimp only [Pt.U, Pt.locs, Pt.cells, Pt.slots] at X17 l17 y17 z17 st17 hQ17
  subst l17 y17 z17
  obtain ⟨rfl, N17q, eq17⟩ := hQ17
  have N17 := Fr.app N16 N17q
  have Zc17 : n0 ≤ T17.heap.size := by rw [eq17]; exact Zc16
  have K17 : Keep T16.heap T17.heap [] := by rw [eq17]; exact Keep.refl _ _
  have Fs17 : Fld Z T17.heap b12 "com/example/folkweave/folkweave/model/IntGroups" "starts" "[I" (.ref b5) := by rw [eq17]; exact Fs16
  have Ar17 : Arr Z T17.heap b5 cl .int := by rw [eq17]; exact Ar16
  obtain ⟨fs, hr, hrun, hended, hW, hsame⟩ := X17.leave (v := some (.int (1 : Int32))) (fun h => by rw [Bd.returns] at h; cases h)
  refine ⟨_, _, pre0 _ ?_, hrun, hended, _, _, rfl, ?_, ⟨_, rfl⟩, hW, hsame.mono (by decide) (by decide)⟩
  · show Steps p.tables e below (s₁.setTop (mkF m 0 #[.val (.int p1), .val (.int p2), .val (.int p3), .val (.int p4), .unset, .unset, .unset, .unset, .unset, .unset, .unset] [])) _
    refine XS.iloadN X0.here hx rfl (hb hby at_0) rfl ?_
    show Steps p.tables e below (s₁.setTop (mkF m 1 #[.val (.int p1), .val (.int p2), .val (.int p3), .val (.int p4), .unset, .unset, .unset, .unset, .unset, .unset, .unset] [(.int p1)])) _
    refine XS.bipush X0.here hx rfl (hb hby at_1) ?_
    show Steps p.tables e below (s₁.setTop (mkF m 3 #[.val (.int p1), .val (.int p2), .val (.int p3), .val (.int p4), .unset, .unset, .unset, .unset, .unset, .unset, .unset] [(.int (15 : Int32)), (.int p1)])) _
    refine XS.iand X0.here hx rfl (hb hby at_3) rfl ?_
    show Steps p.tables e below (s₁.setTop (mkF m 4 #[.val (.int p1), .val (.int p2), .val (.int p3), .val (.int p4), .unset, .unset, .unset, .unset, .unset, .unset, .unset] [(.int (p1 &&& (15 : Int32)))])) _
    refine XS.istore X0.here hx rfl (hb hby at_4) rfl (l' := #[.val (.int p1), .val (.int p2), .val (.int p3), .val (.int p4), .val (.int (p1 &&& (15 : Int32))), .unset, .unset, .unset, .unset, .unset, .unset]) rfl ?_
    show Steps p.tables e below (s₁.setTop (mkF m 6 #[.val (.int p1), .val (.int p2), .val (.int p3), .val (.int p4), .val (.int (p1 &&& (15 : Int32))), .unset, .unset, .unset, .unset, .unset, .unset] [])) _
    refine XS.iloadN X0.here hx rfl (hb hby at_6) rfl ?_
    show Steps p.tables e below (s₁.setTop (mkF m 7 #[.val (.int p1), .val (.int p2), .val (.int p3), .val (.int p4), .val (.int (p1 &&& (15 : Int32))), .unset, .unset, .unset, .unset, .unset, .unset] [(.int p2)])) _
    refine XS.bipush X0.here hx rfl (hb hby at_7) ?_
    show Steps p.tables e below (s₁.setTop (mkF m 9 #[.val (.int p1), .val (.int p2), .val (.int p3), .val (.int p4), .val (.int (p1 &&& (15 : Int32))), .unset, .unset, .unset, .unset, .unset, .unset] [(.int (15 : Int32)), (.int p2)])) _
    refine XS.iand X0.here hx rfl (hb hby at_9) rfl ?_
    show Steps p.tables e below (s₁.setTop (mkF m 10 #[.val (.int p1), .val (.int p2), .val (.int p3), .val (.int p4), .val (.int (p1 &&& (15 : Int32))), .unset, .unset, .unset, .unset, .unset, .unset] [(.int (p2 &&& (15 : Int32)))])) _
    refine XS.istore X0.here hx rfl (hb hby at_10) rfl (l' := #[.val (.int p1), .val (.int p2), .val (.int p3), .val (.int p4), .val (.int (p1 &&& (15 : Int32))), .val (.int (p2 &&& (15 : Int32))), .unset, .unset, .unset, .unset, .unset]) rfl ?_
    show Steps p.tables e below (s₁.setTop (mkF m 12 #[.val (.int p1), .val (.int p2), .val (.int p3), .val (.int p4), .val (.int (p1 &&& (15 : Int32))), .val (.int (p2 &&& (15 : Int32))), .unset, .unset, .unset, .unset, .unset] [])) _
    refine XS.iloadN X0.here hx rfl (hb hby at_12) rfl ?_
    show Steps p.tables e below (s₁.setTop (mkF m 13 #[.val (.int p1), .val (.int p2), .val (.int p3), .val (.int p4), .val (.int (p1 &&& (15 : Int32))), .val (.int (p2 &&& (15 : Int32))), .unset, .unset, .unset, .unset, .unset] [(.int p3)])) _
    refine XS.bipush X0.here hx rfl (hb hby at_13) ?_
    show Steps p.tables e below (s₁.setTop (mkF m 15 #[.val (.int p1), .val (.int p2), .val (.int p3), .val (.int p4), .val (.int (p1 &&& (15 : Int32))), .val (.int (p2 &&& (15 : Int32))), .unset, .unset, .unset, .unset, .unset] [(.int (15 : Int32)), (.int p3)])) _
    refine XS.iand X0.here hx rfl (hb hby at_15) rfl ?_
    show Steps p.tables e below (s₁.setTop (mkF m 16 #[.val (.int p1), .val (.int p2), .val (.int p3), .val (.int p4), .val (.int (p1 &&& (15 : Int32))), .val (.int (p2 &&& (15 : Int32))), .unset, .unset, .unset, .unset, .unset] [(.int (p3 &&& (15 : Int32)))])) _
    refine XS.istore X0.here hx rfl (hb hby at_16) rfl (l' := #[.val (.int p1), .val (.int p2), .val (.int p3), .val (.int p4), .val (.int (p1 &&& (15 : Int32))), .val (.int (p2 &&& (15 : Int32))), .val (.int (p3 &&& (15 : Int32))), .unset, .unset, .unset, .unset]) rfl ?_
    show Steps p.tables e below (s₁.setTop (mkF m 18 #[.val (.int p1), .val (.int p2), .val (.int p3), .val (.int p4), .val (.int (p1 &&& (15 : Int32))), .val (.int (p2 &&& (15 : Int32))), .val (.int (p3 &&& (15 : Int32))), .unset, .unset, .unset, .unset] [])) _
    refine XS.iloadN X0.here hx rfl (hb hby at_18) rfl ?_
    show Steps p.tables e below (s₁.setTop (mkF m 19 #[.val (.int p1), .val (.int p2), .val (.int p3), .val (.int p4), .val (.int (p1 &&& (15 : Int32))), .val (.int (p2 &&& (15 : Int32))), .val (.int (p3 &&& (15 : Int32))), .unset, .unset, .unset, .unset] [(.int p4)])) _
    refine XS.bipush X0.here hx rfl (hb hby at_19) ?_
    show Steps p.tables e below (s₁.setTop (mkF m 21 #[.val (.int p1), .val (.int p2), .val (.int p3), .val (.int p4), .val (.int (p1 &&& (15 : Int32))), .val (.int (p2 &&& (15 : Int32))), .val (.int (p3 &&& (15 : Int32))), .unset, .unset, .unset, .unset] [(.int (15 : Int32)), (.int p4)])) _
    refine XS.iand X0.here hx rfl (hb hby at_21) rfl ?_
    show Steps p.tables e below (s₁.setTop (mkF m 22 #[.val (.int p1), .val (.int p2), .val (.int p3), .val (.int p4), .val (.int (p1 &&& (15 : Int32))), .val (.int (p2 &&& (15 : Int32))), .val (.int (p3 &&& (15 : Int32))), .unset, .unset, .unset, .unset] [(.int (p4 &&& (15 : Int32)))])) _
    refine XS.istore X0.here hx rfl (hb hby at_22) rfl (l' := #[.val (.int p1), .val (.int p2), .val (.int p3), .val (.int p4), .val (.int (p1 &&& (15 : Int32))), .val (.int (p2 &&& (15 : Int32))), .val (.int (p3 &&& (15 : Int32))), .val (.int (p4 &&& (15 : Int32))), .unset, .unset, .unset]) rfl ?_
    show Steps p.tables e below (s₁.setTop (mkF m 24 #[.val (.int p1), .val (.int p2), .val (.int p3), .val (.int p4), .val (.int (p1 &&& (15 : Int32))), .val (.int (p2 &&& (15 : Int32))), .val (.int (p3 &&& (15 : Int32))), .val (.int (p4 &&& (15 : Int32))), .unset, .unset, .unset] [])) _
    refine XS.iconst X0.here hx rfl (hb hby at_24) ?_
    show Steps p.tables e below (s₁.setTop (mkF m 25 #[.val (.int p1), .val (.int p2), .val (.int p3), .val (.int p4), .val (.int (p1 &&& (15 : Int32))), .val (.int (p2 &&& (15 : Int32))), .val (.int (p3 &&& (15 : Int32))), .val (.int (p4 &&& (15 : Int32))), .unset, .unset, .unset] [(.int (5 : Int32))])) _
    refine st5 _ ?_
    show Steps p.tables e below (T5.setTop (mkF m 27 #[.val (.int p1), .val (.int p2), .val (.int p3), .val (.int p4), .val (.int (p1 &&& (15 : Int32))), .val (.int (p2 &&& (15 : Int32))), .val (.int (p3 &&& (15 : Int32))), .val (.int (p4 &&& (15 : Int32))), .unset, .unset, .unset] [(.ref b5)])) _
    refine XS.astore X5.here hx rfl (hb hby at_27) rfl rfl (l' := #[.val (.int p1), .val (.int p2), .val (.int p3), .val (.int p4), .val (.int (p1 &&& (15 : Int32))), .val (.int (p2 &&& (15 : Int32))), .val (.int (p3 &&& (15 : Int32))), .val (.int (p4 &&& (15 : Int32))), .val (.ref b5), .unset, .unset]) rfl ?_
    show Steps p.tables e below (T5.setTop (mkF m 29 #[.val (.int p1), .val (.int p2), .val (.int p3), .val (.int p4), .val (.int (p1 &&& (15 : Int32))), .val (.int (p2 &&& (15 : Int32))), .val (.int (p3 &&& (15 : Int32))), .val (.int (p4 &&& (15 : Int32))), .val (.ref b5), .unset, .unset] [])) _
    refine XS.aload X5.here hx rfl (hb hby at_29) rfl rfl ?_
    show Steps p.tables e below (T5.setTop (mkF m 31 #[.val (.int p1), .val (.int p2), .val (.int p3), .val (.int p4), .val (.int (p1 &&& (15 : Int32))), .val (.int (p2 &&& (15 : Int32))), .val (.int (p3 &&& (15 : Int32))), .val (.int (p4 &&& (15 : Int32))), .val (.ref b5), .unset, .unset] [(.ref b5)])) _
    refine XS.iconst X5.here hx rfl (hb hby at_31) ?_
    show Steps p.tables e below (T5.setTop (mkF m 32 #[.val (.int p1), .val (.int p2), .val (.int p3), .val (.int p4), .val (.int (p1 &&& (15 : Int32))), .val (.int (p2 &&& (15 : Int32))), .val (.int (p3 &&& (15 : Int32))), .val (.int (p4 &&& (15 : Int32))), .val (.ref b5), .unset, .unset] [(.int (0 : Int32)), (.ref b5)])) _
    refine XS.iconst X5.here hx rfl (hb hby at_32) ?_
    show Steps p.tables e below (T5.setTop (mkF m 33 #[.val (.int p1), .val (.int p2), .val (.int p3), .val (.int p4), .val (.int (p1 &&& (15 : Int32))), .val (.int (p2 &&& (15 : Int32))), .val (.int (p3 &&& (15 : Int32))), .val (.int (p4 &&& (15 : Int32))), .val (.ref b5), .unset, .unset] [(.int (0 : Int32)), (.int (0 : Int32)), (.ref b5)])) _
    refine st6 _ ?_
    show Steps p.tables e below (T6.setTop (mkF m 34 #[.val (.int p1), .val (.int p2), .val (.int p3), .val (.int p4), .val (.int (p1 &&& (15 : Int32))), .val (.int (p2 &&& (15 : Int32))), .val (.int (p3 &&& (15 : Int32))), .val (.int (p4 &&& (15 : Int32))), .val (.ref b5), .unset, .unset] [])) _
    refine XS.aload X6.here hx rfl (hb hby at_34) rfl rfl ?_
    show Steps p.tables e below (T6.setTop (mkF m 36 #[.val (.int p1), .val (.int p2), .val (.int p3), .val (.int p4), .val (.int (p1 &&& (15 : Int32))), .val (.int (p2 &&& (15 : Int32))), .val (.int (p3 &&& (15 : Int32))), .val (.int (p4 &&& (15 : Int32))), .val (.ref b5), .unset, .unset] [(.ref b5)])) _
    refine XS.iconst X6.here hx rfl (hb hby at_36) ?_
    show Steps p.tables e below (T6.setTop (mkF m 37 #[.val (.int p1), .val (.int p2), .val (.int p3), .val (.int p4), .val (.int (p1 &&& (15 : Int32))), .val (.int (p2 &&& (15 : Int32))), .val (.int (p3 &&& (15 : Int32))), .val (.int (p4 &&& (15 : Int32))), .val (.ref b5), .unset, .unset] [(.int (1 : Int32)), (.ref b5)])) _
    refine XS.iload X6.here hx rfl (hb hby at_37) rfl ?_
    show Steps p.tables e below (T6.setTop (mkF m 39 #[.val (.int p1), .val (.int p2), .val (.int p3), .val (.int p4), .val (.int (p1 &&& (15 : Int32))), .val (.int (p2 &&& (15 : Int32))), .val (.int (p3 &&& (15 : Int32))), .val (.int (p4 &&& (15 : Int32))), .val (.ref b5), .unset, .unset] [(.int (p1 &&& (15 : Int32))), (.int (1 : Int32)), (.ref b5)])) _
    refine st7 _ ?_
    show Steps p.tables e below (T7.setTop (mkF m 40 #[.val (.int p1), .val (.int p2), .val (.int p3), .val (.int p4), .val (.int (p1 &&& (15 : Int32))), .val (.int (p2 &&& (15 : Int32))), .val (.int (p3 &&& (15 : Int32))), .val (.int (p4 &&& (15 : Int32))), .val (.ref b5), .unset, .unset] [])) _
    refine XS.aload X7.here hx rfl (hb hby at_40) rfl rfl ?_
    show Steps p.tables e below (T7.setTop (mkF m 42 #[.val (.int p1), .val (.int p2), .val (.int p3), .val (.int p4), .val (.int (p1 &&& (15 : Int32))), .val (.int (p2 &&& (15 : Int32))), .val (.int (p3 &&& (15 : Int32))), .val (.int (p4 &&& (15 : Int32))), .val (.ref b5), .unset, .unset] [(.ref b5)])) _
    refine XS.iconst X7.here hx rfl (hb hby at_42) ?_
    show Steps p.tables e below (T7.setTop (mkF m 43 #[.val (.int p1), .val (.int p2), .val (.int p3), .val (.int p4), .val (.int (p1 &&& (15 : Int32))), .val (.int (p2 &&& (15 : Int32))), .val (.int (p3 &&& (15 : Int32))), .val (.int (p4 &&& (15 : Int32))), .val (.ref b5), .unset, .unset] [(.int (2 : Int32)), (.ref b5)])) _
    refine XS.iload X7.here hx rfl (hb hby at_43) rfl ?_
    show Steps p.tables e below (T7.setTop (mkF m 45 #[.val (.int p1), .val (.int p2), .val (.int p3), .val (.int p4), .val (.int (p1 &&& (15 : Int32))), .val (.int (p2 &&& (15 : Int32))), .val (.int (p3 &&& (15 : Int32))), .val (.int (p4 &&& (15 : Int32))), .val (.ref b5), .unset, .unset] [(.int (p1 &&& (15 : Int32))), (.int (2 : Int32)), (.ref b5)])) _
    refine XS.iload X7.here hx rfl (hb hby at_45) rfl ?_
    show Steps p.tables e below (T7.setTop (mkF m 47 #[.val (.int p1), .val (.int p2), .val (.int p3), .val (.int p4), .val (.int (p1 &&& (15 : Int32))), .val (.int (p2 &&& (15 : Int32))), .val (.int (p3 &&& (15 : Int32))), .val (.int (p4 &&& (15 : Int32))), .val (.ref b5), .unset, .unset] [(.int (p2 &&& (15 : Int32))), (.int (p1 &&& (15 : Int32))), (.int (2 : Int32)), (.ref b5)])) _
    refine XS.iadd X7.here hx rfl (hb hby at_47) rfl ?_
    show Steps p.tables e below (T7.setTop (mkF m 48 #[.val (.int p1), .val (.int p2), .val (.int p3), .val (.int p4), .val (.int (p1 &&& (15 : Int32))), .val (.int (p2 &&& (15 : Int32))), .val (.int (p3 &&& (15 : Int32))), .val (.int (p4 &&& (15 : Int32))), .val (.ref b5), .unset, .unset] [(.int ((p1 &&& (15 : Int32)) + (p2 &&& (15 : Int32)))), (.int (2 : Int32)), (.ref b5)])) _
    refine st8 _ ?_
    show Steps p.tables e below (T8.setTop (mkF m 49 #[.val (.int p1), .val (.int p2), .val (.int p3), .val (.int p4), .val (.int (p1 &&& (15 : Int32))), .val (.int (p2 &&& (15 : Int32))), .val (.int (p3 &&& (15 : Int32))), .val (.int (p4 &&& (15 : Int32))), .val (.ref b5), .unset, .unset] [])) _
    refine XS.aload X8.here hx rfl (hb hby at_49) rfl rfl ?_
    show Steps p.tables e below (T8.setTop (mkF m 51 #[.val (.int p1), .val (.int p2), .val (.int p3), .val (.int p4), .val (.int (p1 &&& (15 : Int32))), .val (.int (p2 &&& (15 : Int32))), .val (.int (p3 &&& (15 : Int32))), .val (.int (p4 &&& (15 : Int32))), .val (.ref b5), .unset, .unset] [(.ref b5)])) _
    refine XS.iconst X8.here hx rfl (hb hby at_51) ?_
    show Steps p.tables e below (T8.setTop (mkF m 52 #[.val (.int p1), .val (.int p2), .val (.int p3), .val (.int p4), .val (.int (p1 &&& (15 : Int32))), .val (.int (p2 &&& (15 : Int32))), .val (.int (p3 &&& (15 : Int32))), .val (.int (p4 &&& (15 : Int32))), .val (.ref b5), .unset, .unset] [(.int (3 : Int32)), (.ref b5)])) _
    refine XS.iload X8.here hx rfl (hb hby at_52) rfl ?_
    show Steps p.tables e below (T8.setTop (mkF m 54 #[.val (.int p1), .val (.int p2), .val (.int p3), .val (.int p4), .val (.int (p1 &&& (15 : Int32))), .val (.int (p2 &&& (15 : Int32))), .val (.int (p3 &&& (15 : Int32))), .val (.int (p4 &&& (15 : Int32))), .val (.ref b5), .unset, .unset] [(.int (p1 &&& (15 : Int32))), (.int (3 : Int32)), (.ref b5)])) _
    refine XS.iload X8.here hx rfl (hb hby at_54) rfl ?_
    show Steps p.tables e below (T8.setTop (mkF m 56 #[.val (.int p1), .val (.int p2), .val (.int p3), .val (.int p4), .val (.int (p1 &&& (15 : Int32))), .val (.int (p2 &&& (15 : Int32))), .val (.int (p3 &&& (15 : Int32))), .val (.int (p4 &&& (15 : Int32))), .val (.ref b5), .unset, .unset] [(.int (p2 &&& (15 : Int32))), (.int (p1 &&& (15 : Int32))), (.int (3 : Int32)), (.ref b5)])) _
    refine XS.iadd X8.here hx rfl (hb hby at_56) rfl ?_
    show Steps p.tables e below (T8.setTop (mkF m 57 #[.val (.int p1), .val (.int p2), .val (.int p3), .val (.int p4), .val (.int (p1 &&& (15 : Int32))), .val (.int (p2 &&& (15 : Int32))), .val (.int (p3 &&& (15 : Int32))), .val (.int (p4 &&& (15 : Int32))), .val (.ref b5), .unset, .unset] [(.int ((p1 &&& (15 : Int32)) + (p2 &&& (15 : Int32)))), (.int (3 : Int32)), (.ref b5)])) _
    refine XS.iload X8.here hx rfl (hb hby at_57) rfl ?_
    show Steps p.tables e below (T8.setTop (mkF m 59 #[.val (.int p1), .val (.int p2), .val (.int p3), .val (.int p4), .val (.int (p1 &&& (15 : Int32))), .val (.int (p2 &&& (15 : Int32))), .val (.int (p3 &&& (15 : Int32))), .val (.int (p4 &&& (15 : Int32))), .val (.ref b5), .unset, .unset] [(.int (p3 &&& (15 : Int32))), (.int ((p1 &&& (15 : Int32)) + (p2 &&& (15 : Int32)))), (.int (3 : Int32)), (.ref b5)])) _
    refine XS.iadd X8.here hx rfl (hb hby at_59) rfl ?_
    show Steps p.tables e below (T8.setTop (mkF m 60 #[.val (.int p1), .val (.int p2), .val (.int p3), .val (.int p4), .val (.int (p1 &&& (15 : Int32))), .val (.int (p2 &&& (15 : Int32))), .val (.int (p3 &&& (15 : Int32))), .val (.int (p4 &&& (15 : Int32))), .val (.ref b5), .unset, .unset] [(.int (((p1 &&& (15 : Int32)) + (p2 &&& (15 : Int32))) + (p3 &&& (15 : Int32)))), (.int (3 : Int32)), (.ref b5)])) _
    refine st9 _ ?_
    show Steps p.tables e below (T9.setTop (mkF m 61 #[.val (.int p1), .val (.int p2), .val (.int p3), .val (.int p4), .val (.int (p1 &&& (15 : Int32))), .val (.int (p2 &&& (15 : Int32))), .val (.int (p3 &&& (15 : Int32))), .val (.int (p4 &&& (15 : Int32))), .val (.ref b5), .unset, .unset] [])) _
    refine XS.aload X9.here hx rfl (hb hby at_61) rfl rfl ?_
    show Steps p.tables e below (T9.setTop (mkF m 63 #[.val (.int p1), .val (.int p2), .val (.int p3), .val (.int p4), .val (.int (p1 &&& (15 : Int32))), .val (.int (p2 &&& (15 : Int32))), .val (.int (p3 &&& (15 : Int32))), .val (.int (p4 &&& (15 : Int32))), .val (.ref b5), .unset, .unset] [(.ref b5)])) _
    refine XS.iconst X9.here hx rfl (hb hby at_63) ?_
    show Steps p.tables e below (T9.setTop (mkF m 64 #[.val (.int p1), .val (.int p2), .val (.int p3), .val (.int p4), .val (.int (p1 &&& (15 : Int32))), .val (.int (p2 &&& (15 : Int32))), .val (.int (p3 &&& (15 : Int32))), .val (.int (p4 &&& (15 : Int32))), .val (.ref b5), .unset, .unset] [(.int (4 : Int32)), (.ref b5)])) _
    refine XS.iload X9.here hx rfl (hb hby at_64) rfl ?_
    show Steps p.tables e below (T9.setTop (mkF m 66 #[.val (.int p1), .val (.int p2), .val (.int p3), .val (.int p4), .val (.int (p1 &&& (15 : Int32))), .val (.int (p2 &&& (15 : Int32))), .val (.int (p3 &&& (15 : Int32))), .val (.int (p4 &&& (15 : Int32))), .val (.ref b5), .unset, .unset] [(.int (p1 &&& (15 : Int32))), (.int (4 : Int32)), (.ref b5)])) _
    refine XS.iload X9.here hx rfl (hb hby at_66) rfl ?_
    show Steps p.tables e below (T9.setTop (mkF m 68 #[.val (.int p1), .val (.int p2), .val (.int p3), .val (.int p4), .val (.int (p1 &&& (15 : Int32))), .val (.int (p2 &&& (15 : Int32))), .val (.int (p3 &&& (15 : Int32))), .val (.int (p4 &&& (15 : Int32))), .val (.ref b5), .unset, .unset] [(.int (p2 &&& (15 : Int32))), (.int (p1 &&& (15 : Int32))), (.int (4 : Int32)), (.ref b5)])) _
    refine XS.iadd X9.here hx rfl (hb hby at_68) rfl ?_
    show Steps p.tables e below (T9.setTop (mkF m 69 #[.val (.int p1), .val (.int p2), .val (.int p3), .val (.int p4), .val (.int (p1 &&& (15 : Int32))), .val (.int (p2 &&& (15 : Int32))), .val (.int (p3 &&& (15 : Int32))), .val (.int (p4 &&& (15 : Int32))), .val (.ref b5), .unset, .unset] [(.int ((p1 &&& (15 : Int32)) + (p2 &&& (15 : Int32)))), (.int (4 : Int32)), (.ref b5)])) _
    refine XS.iload X9.here hx rfl (hb hby at_69) rfl ?_
    show Steps p.tables e below (T9.setTop (mkF m 71 #[.val (.int p1), .val (.int p2), .val (.int p3), .val (.int p4), .val (.int (p1 &&& (15 : Int32))), .val (.int (p2 &&& (15 : Int32))), .val (.int (p3 &&& (15 : Int32))), .val (.int (p4 &&& (15 : Int32))), .val (.ref b5), .unset, .unset] [(.int (p3 &&& (15 : Int32))), (.int ((p1 &&& (15 : Int32)) + (p2 &&& (15 : Int32)))), (.int (4 : Int32)), (.ref b5)])) _
    refine XS.iadd X9.here hx rfl (hb hby at_71) rfl ?_
    show Steps p.tables e below (T9.setTop (mkF m 72 #[.val (.int p1), .val (.int p2), .val (.int p3), .val (.int p4), .val (.int (p1 &&& (15 : Int32))), .val (.int (p2 &&& (15 : Int32))), .val (.int (p3 &&& (15 : Int32))), .val (.int (p4 &&& (15 : Int32))), .val (.ref b5), .unset, .unset] [(.int (((p1 &&& (15 : Int32)) + (p2 &&& (15 : Int32))) + (p3 &&& (15 : Int32)))), (.int (4 : Int32)), (.ref b5)])) _
    refine XS.iload X9.here hx rfl (hb hby at_72) rfl ?_
    show Steps p.tables e below (T9.setTop (mkF m 74 #[.val (.int p1), .val (.int p2), .val (.int p3), .val (.int p4), .val (.int (p1 &&& (15 : Int32))), .val (.int (p2 &&& (15 : Int32))), .val (.int (p3 &&& (15 : Int32))), .val (.int (p4 &&& (15 : Int32))), .val (.ref b5), .unset, .unset] [(.int (p4 &&& (15 : Int32))), (.int (((p1 &&& (15 : Int32)) + (p2 &&& (15 : Int32))) + (p3 &&& (15 : Int32)))), (.int (4 : Int32)), (.ref b5)])) _
    refine XS.iadd X9.here hx rfl (hb hby at_74) rfl ?_
    show Steps p.tables e below (T9.setTop (mkF m 75 #[.val (.int p1), .val (.int p2), .val (.int p3), .val (.int p4), .val (.int (p1 &&& (15 : Int32))), .val (.int (p2 &&& (15 : Int32))), .val (.int (p3 &&& (15 : Int32))), .val (.int (p4 &&& (15 : Int32))), .val (.ref b5), .unset, .unset] [(.int ((((p1 &&& (15 : Int32)) + (p2 &&& (15 : Int32))) + (p3 &&& (15 : Int32))) + (p4 &&& (15 : Int32)))), (.int (4 : Int32)), (.ref b5)])) _
    refine st10 _ ?_
    show Steps p.tables e below (T10.setTop (mkF m 76 #[.val (.int p1), .val (.int p2), .val (.int p3), .val (.int p4), .val (.int (p1 &&& (15 : Int32))), .val (.int (p2 &&& (15 : Int32))), .val (.int (p3 &&& (15 : Int32))), .val (.int (p4 &&& (15 : Int32))), .val (.ref b5), .unset, .unset] [])) _
    refine XS.bipush X10.here hx rfl (hb hby at_76) ?_
    show Steps p.tables e below (T10.setTop (mkF m 78 #[.val (.int p1), .val (.int p2), .val (.int p3), .val (.int p4), .val (.int (p1 &&& (15 : Int32))), .val (.int (p2 &&& (15 : Int32))), .val (.int (p3 &&& (15 : Int32))), .val (.int (p4 &&& (15 : Int32))), .val (.ref b5), .unset, .unset] [(.int (60 : Int32))])) _
    refine st11 _ ?_
    show Steps p.tables e below (T11.setTop (mkF m 80 #[.val (.int p1), .val (.int p2), .val (.int p3), .val (.int p4), .val (.int (p1 &&& (15 : Int32))), .val (.int (p2 &&& (15 : Int32))), .val (.int (p3 &&& (15 : Int32))), .val (.int (p4 &&& (15 : Int32))), .val (.ref b5), .unset, .unset] [(.ref b11)])) _
    refine XS.astore X11.here hx rfl (hb hby at_80) rfl rfl (l' := #[.val (.int p1), .val (.int p2), .val (.int p3), .val (.int p4), .val (.int (p1 &&& (15 : Int32))), .val (.int (p2 &&& (15 : Int32))), .val (.int (p3 &&& (15 : Int32))), .val (.int (p4 &&& (15 : Int32))), .val (.ref b5), .val (.ref b11), .unset]) rfl ?_
    show Steps p.tables e below (T11.setTop (mkF m 82 #[.val (.int p1), .val (.int p2), .val (.int p3), .val (.int p4), .val (.int (p1 &&& (15 : Int32))), .val (.int (p2 &&& (15 : Int32))), .val (.int (p3 &&& (15 : Int32))), .val (.int (p4 &&& (15 : Int32))), .val (.ref b5), .val (.ref b11), .unset] [])) _
    refine st12 _ ?_
    show Steps p.tables e below (T12.setTop (mkF m 85 #[.val (.int p1), .val (.int p2), .val (.int p3), .val (.int p4), .val (.int (p1 &&& (15 : Int32))), .val (.int (p2 &&& (15 : Int32))), .val (.int (p3 &&& (15 : Int32))), .val (.int (p4 &&& (15 : Int32))), .val (.ref b5), .val (.ref b11), .unset] [(.ref b12)])) _
    refine XS.dup X12.here hx rfl (hb hby at_85) rfl rfl ?_
    show Steps p.tables e below (T12.setTop (mkF m 86 #[.val (.int p1), .val (.int p2), .val (.int p3), .val (.int p4), .val (.int (p1 &&& (15 : Int32))), .val (.int (p2 &&& (15 : Int32))), .val (.int (p3 &&& (15 : Int32))), .val (.int (p4 &&& (15 : Int32))), .val (.ref b5), .val (.ref b11), .unset] [(.ref b12), (.ref b12)])) _
    refine XS.aload X12.here hx rfl (hb hby at_86) rfl rfl ?_
    show Steps p.tables e below (T12.setTop (mkF m 88 #[.val (.int p1), .val (.int p2), .val (.int p3), .val (.int p4), .val (.int (p1 &&& (15 : Int32))), .val (.int (p2 &&& (15 : Int32))), .val (.int (p3 &&& (15 : Int32))), .val (.int (p4 &&& (15 : Int32))), .val (.ref b5), .val (.ref b11), .unset] [(.ref b5), (.ref b12), (.ref b12)])) _
    refine XS.aload X12.here hx rfl (hb hby at_88) rfl rfl ?_
    show Steps p.tables e below (T12.setTop (mkF m 90 #[.val (.int p1), .val (.int p2), .val (.int p3), .val (.int p4), .val (.int (p1 &&& (15 : Int32))), .val (.int (p2 &&& (15 : Int32))), .val (.int (p3 &&& (15 : Int32))), .val (.int (p4 &&& (15 : Int32))), .val (.ref b5), .val (.ref b11), .unset] [(.ref b11), (.ref b5), (.ref b12), (.ref b12)])) _
    refine st13.trans ?_
    show Steps p.tables e below (T13.setTop (mkF m 93 #[.val (.int p1), .val (.int p2), .val (.int p3), .val (.int p4), .val (.int (p1 &&& (15 : Int32))), .val (.int (p2 &&& (15 : Int32))), .val (.int (p3 &&& (15 : Int32))), .val (.int (p4 &&& (15 : Int32))), .val (.ref b5), .val (.ref b11), .unset] [(.ref b12)])) _
    refine XS.astore X13.here hx rfl (hb hby at_93) rfl rfl (l' := #[.val (.int p1), .val (.int p2), .val (.int p3), .val (.int p4), .val (.int (p1 &&& (15 : Int32))), .val (.int (p2 &&& (15 : Int32))), .val (.int (p3 &&& (15 : Int32))), .val (.int (p4 &&& (15 : Int32))), .val (.ref b5), .val (.ref b11), .val (.ref b12)]) rfl ?_
    show Steps p.tables e below (T13.setTop (mkF m 95 #[.val (.int p1), .val (.int p2), .val (.int p3), .val (.int p4), .val (.int (p1 &&& (15 : Int32))), .val (.int (p2 &&& (15 : Int32))), .val (.int (p3 &&& (15 : Int32))), .val (.int (p4 &&& (15 : Int32))), .val (.ref b5), .val (.ref b11), .val (.ref b12)] [])) _
    refine XS.aload X13.here hx rfl (hb hby at_95) rfl rfl ?_
    show Steps p.tables e below (T13.setTop (mkF m 97 #[.val (.int p1), .val (.int p2), .val (.int p3), .val (.int p4), .val (.int (p1 &&& (15 : Int32))), .val (.int (p2 &&& (15 : Int32))), .val (.int (p3 &&& (15 : Int32))), .val (.int (p4 &&& (15 : Int32))), .val (.ref b5), .val (.ref b11), .val (.ref b12)] [(.ref b12)])) _
    refine XS.iconst X13.here hx rfl (hb hby at_97) ?_
    show Steps p.tables e below (T13.setTop (mkF m 98 #[.val (.int p1), .val (.int p2), .val (.int p3), .val (.int p4), .val (.int (p1 &&& (15 : Int32))), .val (.int (p2 &&& (15 : Int32))), .val (.int (p3 &&& (15 : Int32))), .val (.int (p4 &&& (15 : Int32))), .val (.ref b5), .val (.ref b11), .val (.ref b12)] [(.int (0 : Int32)), (.ref b12)])) _
    refine st14.trans ?_
    show Steps p.tables e below (T14.setTop (mkF m 101 #[.val (.int p1), .val (.int p2), .val (.int p3), .val (.int p4), .val (.int (p1 &&& (15 : Int32))), .val (.int (p2 &&& (15 : Int32))), .val (.int (p3 &&& (15 : Int32))), .val (.int (p4 &&& (15 : Int32))), .val (.ref b5), .val (.ref b11), .val (.ref b12)] [(.int ((p1 &&& (15 : Int32)) - (0 : Int32)))])) _
    refine XS.iload X14.here hx rfl (hb hby at_101) rfl ?_
    show Steps p.tables e below (T14.setTop (mkF m 103 #[.val (.int p1), .val (.int p2), .val (.int p3), .val (.int p4), .val (.int (p1 &&& (15 : Int32))), .val (.int (p2 &&& (15 : Int32))), .val (.int (p3 &&& (15 : Int32))), .val (.int (p4 &&& (15 : Int32))), .val (.ref b5), .val (.ref b11), .val (.ref b12)] [(.int (p1 &&& (15 : Int32))), (.int ((p1 &&& (15 : Int32)) - (0 : Int32)))])) _
    refine XS.icmpNo X14.here hx rfl (hb hby at_103) rfl (teq (own_z _ : ((p1 &&& (15 : Int32)) - (0 : Int32)) = (p1 &&& (15 : Int32)))).2 ?_
    show Steps p.tables e below (T14.setTop (mkF m 106 #[.val (.int p1), .val (.int p2), .val (.int p3), .val (.int p4), .val (.int (p1 &&& (15 : Int32))), .val (.int (p2 &&& (15 : Int32))), .val (.int (p3 &&& (15 : Int32))), .val (.int (p4 &&& (15 : Int32))), .val (.ref b5), .val (.ref b11), .val (.ref b12)] [])) _
    refine XS.aload X14.here hx rfl (hb hby at_106) rfl rfl ?_
    show Steps p.tables e below (T14.setTop (mkF m 108 #[.val (.int p1), .val (.int p2), .val (.int p3), .val (.int p4), .val (.int (p1 &&& (15 : Int32))), .val (.int (p2 &&& (15 : Int32))), .val (.int (p3 &&& (15 : Int32))), .val (.int (p4 &&& (15 : Int32))), .val (.ref b5), .val (.ref b11), .val (.ref b12)] [(.ref b12)])) _
    refine XS.iconst X14.here hx rfl (hb hby at_108) ?_
    show Steps p.tables e below (T14.setTop (mkF m 109 #[.val (.int p1), .val (.int p2), .val (.int p3), .val (.int p4), .val (.int (p1 &&& (15 : Int32))), .val (.int (p2 &&& (15 : Int32))), .val (.int (p3 &&& (15 : Int32))), .val (.int (p4 &&& (15 : Int32))), .val (.ref b5), .val (.ref b11), .val (.ref b12)] [(.int (1 : Int32)), (.ref b12)])) _
    refine st15.trans ?_
    show Steps p.tables e below (T15.setTop (mkF m 112 #[.val (.int p1), .val (.int p2), .val (.int p3), .val (.int p4), .val (.int (p1 &&& (15 : Int32))), .val (.int (p2 &&& (15 : Int32))), .val (.int (p3 &&& (15 : Int32))), .val (.int (p4 &&& (15 : Int32))), .val (.ref b5), .val (.ref b11), .val (.ref b12)] [(.int (((p1 &&& (15 : Int32)) + (p2 &&& (15 : Int32))) - (p1 &&& (15 : Int32))))])) _
    refine XS.iload X15.here hx rfl (hb hby at_112) rfl ?_
    show Steps p.tables e below (T15.setTop (mkF m 114 #[.val (.int p1), .val (.int p2), .val (.int p3), .val (.int p4), .val (.int (p1 &&& (15 : Int32))), .val (.int (p2 &&& (15 : Int32))), .val (.int (p3 &&& (15 : Int32))), .val (.int (p4 &&& (15 : Int32))), .val (.ref b5), .val (.ref b11), .val (.ref b12)] [(.int (p2 &&& (15 : Int32))), (.int (((p1 &&& (15 : Int32)) + (p2 &&& (15 : Int32))) - (p1 &&& (15 : Int32))))])) _
    refine XS.icmpNo X15.here hx rfl (hb hby at_114) rfl (teq (own_d _ _ : (((p1 &&& (15 : Int32)) + (p2 &&& (15 : Int32))) - (p1 &&& (15 : Int32))) = (p2 &&& (15 : Int32)))).2 ?_
    show Steps p.tables e below (T15.setTop (mkF m 117 #[.val (.int p1), .val (.int p2), .val (.int p3), .val (.int p4), .val (.int (p1 &&& (15 : Int32))), .val (.int (p2 &&& (15 : Int32))), .val (.int (p3 &&& (15 : Int32))), .val (.int (p4 &&& (15 : Int32))), .val (.ref b5), .val (.ref b11), .val (.ref b12)] [])) _
    refine XS.aload X15.here hx rfl (hb hby at_117) rfl rfl ?_
    show Steps p.tables e below (T15.setTop (mkF m 119 #[.val (.int p1), .val (.int p2), .val (.int p3), .val (.int p4), .val (.int (p1 &&& (15 : Int32))), .val (.int (p2 &&& (15 : Int32))), .val (.int (p3 &&& (15 : Int32))), .val (.int (p4 &&& (15 : Int32))), .val (.ref b5), .val (.ref b11), .val (.ref b12)] [(.ref b12)])) _
    refine XS.iconst X15.here hx rfl (hb hby at_119) ?_
    show Steps p.tables e below (T15.setTop (mkF m 120 #[.val (.int p1), .val (.int p2), .val (.int p3), .val (.int p4), .val (.int (p1 &&& (15 : Int32))), .val (.int (p2 &&& (15 : Int32))), .val (.int (p3 &&& (15 : Int32))), .val (.int (p4 &&& (15 : Int32))), .val (.ref b5), .val (.ref b11), .val (.ref b12)] [(.int (2 : Int32)), (.ref b12)])) _
    refine st16.trans ?_
    show Steps p.tables e below (T16.setTop (mkF m 123 #[.val (.int p1), .val (.int p2), .val (.int p3), .val (.int p4), .val (.int (p1 &&& (15 : Int32))), .val (.int (p2 &&& (15 : Int32))), .val (.int (p3 &&& (15 : Int32))), .val (.int (p4 &&& (15 : Int32))), .val (.ref b5), .val (.ref b11), .val (.ref b12)] [(.int ((((p1 &&& (15 : Int32)) + (p2 &&& (15 : Int32))) + (p3 &&& (15 : Int32))) - ((p1 &&& (15 : Int32)) + (p2 &&& (15 : Int32)))))])) _
    refine XS.iload X16.here hx rfl (hb hby at_123) rfl ?_
    show Steps p.tables e below (T16.setTop (mkF m 125 #[.val (.int p1), .val (.int p2), .val (.int p3), .val (.int p4), .val (.int (p1 &&& (15 : Int32))), .val (.int (p2 &&& (15 : Int32))), .val (.int (p3 &&& (15 : Int32))), .val (.int (p4 &&& (15 : Int32))), .val (.ref b5), .val (.ref b11), .val (.ref b12)] [(.int (p3 &&& (15 : Int32))), (.int ((((p1 &&& (15 : Int32)) + (p2 &&& (15 : Int32))) + (p3 &&& (15 : Int32))) - ((p1 &&& (15 : Int32)) + (p2 &&& (15 : Int32)))))])) _
    refine XS.icmpNo X16.here hx rfl (hb hby at_125) rfl (teq (own_d _ _ : ((((p1 &&& (15 : Int32)) + (p2 &&& (15 : Int32))) + (p3 &&& (15 : Int32))) - ((p1 &&& (15 : Int32)) + (p2 &&& (15 : Int32)))) = (p3 &&& (15 : Int32)))).2 ?_
    show Steps p.tables e below (T16.setTop (mkF m 128 #[.val (.int p1), .val (.int p2), .val (.int p3), .val (.int p4), .val (.int (p1 &&& (15 : Int32))), .val (.int (p2 &&& (15 : Int32))), .val (.int (p3 &&& (15 : Int32))), .val (.int (p4 &&& (15 : Int32))), .val (.ref b5), .val (.ref b11), .val (.ref b12)] [])) _
    refine XS.aload X16.here hx rfl (hb hby at_128) rfl rfl ?_
    show Steps p.tables e below (T16.setTop (mkF m 130 #[.val (.int p1), .val (.int p2), .val (.int p3), .val (.int p4), .val (.int (p1 &&& (15 : Int32))), .val (.int (p2 &&& (15 : Int32))), .val (.int (p3 &&& (15 : Int32))), .val (.int (p4 &&& (15 : Int32))), .val (.ref b5), .val (.ref b11), .val (.ref b12)] [(.ref b12)])) _
    refine XS.iconst X16.here hx rfl (hb hby at_130) ?_
    show Steps p.tables e below (T16.setTop (mkF m 131 #[.val (.int p1), .val (.int p2), .val (.int p3), .val (.int p4), .val (.int (p1 &&& (15 : Int32))), .val (.int (p2 &&& (15 : Int32))), .val (.int (p3 &&& (15 : Int32))), .val (.int (p4 &&& (15 : Int32))), .val (.ref b5), .val (.ref b11), .val (.ref b12)] [(.int (3 : Int32)), (.ref b12)])) _
    refine st17.trans ?_
    show Steps p.tables e below (T17.setTop (mkF m 134 #[.val (.int p1), .val (.int p2), .val (.int p3), .val (.int p4), .val (.int (p1 &&& (15 : Int32))), .val (.int (p2 &&& (15 : Int32))), .val (.int (p3 &&& (15 : Int32))), .val (.int (p4 &&& (15 : Int32))), .val (.ref b5), .val (.ref b11), .val (.ref b12)] [(.int (((((p1 &&& (15 : Int32)) + (p2 &&& (15 : Int32))) + (p3 &&& (15 : Int32))) + (p4 &&& (15 : Int32))) - (((p1 &&& (15 : Int32)) + (p2 &&& (15 : Int32))) + (p3 &&& (15 : Int32)))))])) _
    refine XS.iload X17.here hx rfl (hb hby at_134) rfl ?_
    show Steps p.tables e below (T17.setTop (mkF m 136 #[.val (.int p1), .val (.int p2), .val (.int p3), .val (.int p4), .val (.int (p1 &&& (15 : Int32))), .val (.int (p2 &&& (15 : Int32))), .val (.int (p3 &&& (15 : Int32))), .val (.int (p4 &&& (15 : Int32))), .val (.ref b5), .val (.ref b11), .val (.ref b12)] [(.int (p4 &&& (15 : Int32))), (.int (((((p1 &&& (15 : Int32)) + (p2 &&& (15 : Int32))) + (p3 &&& (15 : Int32))) + (p4 &&& (15 : Int32))) - (((p1 &&& (15 : Int32)) + (p2 &&& (15 : Int32))) + (p3 &&& (15 : Int32)))))])) _
    refine XS.icmpNo X17.here hx rfl (hb hby at_136) rfl (teq (own_d _ _ : (((((p1 &&& (15 : Int32)) + (p2 &&& (15 : Int32))) + (p3 &&& (15 : Int32))) + (p4 &&& (15 : Int32))) - (((p1 &&& (15 : Int32)) + (p2 &&& (15 : Int32))) + (p3 &&& (15 : Int32)))) = (p4 &&& (15 : Int32)))).2 ?_
    show Steps p.tables e below (T17.setTop (mkF m 139 #[.val (.int p1), .val (.int p2), .val (.int p3), .val (.int p4), .val (.int (p1 &&& (15 : Int32))), .val (.int (p2 &&& (15 : Int32))), .val (.int (p3 &&& (15 : Int32))), .val (.int (p4 &&& (15 : Int32))), .val (.ref b5), .val (.ref b11), .val (.ref b12)] [])) _
    refine XS.iconst X17.here hx rfl (hb hby at_139) ?_
    show Steps p.tables e below (T17.setTop (mkF m 140 #[.val (.int p1), .val (.int p2), .val (.int p3), .val (.int p4), .val (.int (p1 &&& (15 : Int32))), .val (.int (p2 &&& (15 : Int32))), .val (.int (p3 &&& (15 : Int32))), .val (.int (p4 &&& (15 : Int32))), .val (.ref b5), .val (.ref b11), .val (.ref b12)] [(.int (1 : Int32))])) _
    refine XS.goto X17.here hx rfl (pc0 := 140) (pc' := 144) rfl (hb hby at_140) (by decide) (by decide) ?_
    show Steps p.tables e below (T17.setTop (mkF m 144 #[.val (.int p1), .val (.int p2), .val (.int p3), .val (.int p4), .val (.int (p1 &&& (15 : Int32))), .val (.int (p2 &&& (15 : Int32))), .val (.int (p3 &&& (15 : Int32))), .val (.int (p4 &&& (15 : Int32))), .val (.ref b5), .val (.ref b11), .val (.ref b12)] [(.int (1 : Int32))])) _
    exact retN X17 hx (t := .boolean) Bd.returns (by simp) (hb hby at_144) hr
  · show Q0 Z p1 p2 p3 p4 h0 n0 _ T17.heap _
    exact ⟨rfl, N17⟩
set_option maxRecDepth 65536 in
set_option maxHeartbeats 40000000 in
theorem comes_1 {Post : Tables → Env → Array Value → State → Outcome → State → Prop} (hpost : ∀ tb e args s v u, (limb_1_1.after args s (.returned v) u = true ∧ limb_1_2.after args s (.returned v) u = true ∧ True) → FrameEnd s (.returned v) u (Jvm.fieldLocs frame_1_writes args s ++ Jvm.arrayLocs frame_1_arrays args s ++ Jvm.staticLocs frame_1_statics s) 16 256 → Post tb e args s (.returned v) u) :
    ArmFor flags0 classFile x code maxLocals ret World_1 tables_1 room_1 Calls_1 rest_1 Pre_1 Post := by
  intro l hfl _ _ p e ha hc hk s m args below hf hA hF happ hP
  obtain ⟨hcalls, hrest, hpre⟩ := hP
  obtain ⟨-, -, -, hnamed, -, -, -, hat⟩ := (Spec.applies_iff hf).mp happ
  obtain ⟨hg, hn⟩ := and_e (Cond.before_iff.mp (show (Jvm.Cond.and given_1 narrow_1).before args s = true from hpre))
  obtain ⟨g18, g19⟩ := and_e hg
  obtain ⟨g20, g21⟩ := and_e g19
  obtain ⟨g22, g23⟩ := and_e g21
  obtain ⟨g24, g25⟩ := and_e g23
  obtain ⟨w0, w1, w2, w3, rfl⟩ : ∃ w0 w1 w2 w3 : Value, args = #[w0, w1, w2, w3] := by
    have hs : args.size = 4 := by simpa [Cond.value, given_1] using g18
    obtain ⟨L⟩ := args
    match L, hs with
    | [w0, w1, w2, w3], _ => exact ⟨w0, w1, w2, w3, rfl⟩
  have hw := fun d (hd : d ∈ tables_1) => atoms_spec (ws := Jvm.Cond.code x code maxLocals ret :: tables_1) hat d (List.mem_cons_of_mem _ hd)
  have hfit : Fit s := fun {y c} hc i hi => by
    obtain ⟨ha, rfl⟩ := Array.getElem?_eq_some_iff.mp hc
    have q := List.all_eq_true.mp ((Array.all_eq_true_iff_forall_mem.mp hF) _ (Array.getElem_mem ha)) i (List.mem_range.mpr hi)
    simpa [Array.getElem?_eq_getElem hi] using q
  obtain ⟨i0, ei0⟩ := is_v g20
  obtain rfl : w0 = (.int i0) := Option.some.inj ei0
  obtain ⟨i1, ei1⟩ := is_v g22
  obtain rfl : w1 = (.int i1) := Option.some.inj ei1
  obtain ⟨i2, ei2⟩ := is_v g24
  obtain rfl : w2 = (.int i2) := Option.some.inj ei2
  obtain ⟨i3, ei3⟩ := is_v g25
  obtain rfl : w3 = (.int i3) := Option.some.inj ei3
  obtain ⟨n, o, h1, h2, h3, _, L, rfl, ⟨rfl, N⟩, hq⟩ := rm0 l s _ hw tables_1 i0 i1 i2 i3 s.heap s.heap.size (Nat.le_refl _) p e ha hc hk s m _ below hf ((Spec.applies_iff_loose hf).mp happ).1 ⟨rfl, State.Warmed39.refl s, rfl⟩ trivial
  refine ⟨n, _, h1, h2, h3, hpost _ _ _ _ _ _ ⟨Cond.after_iff.mpr rfl, Cond.after_iff.mpr (eq_i res_at (Term.int_eval (1)) rfl), trivial⟩ ⟨hq.1, hq.2.1, (hq.2.2.sift fun y hy => Or.inr (N y hy)).mono (by decide) (by decide)⟩⟩
theorem main_1_1 : Claimed_1_1 := comes_1 fun _ _ _ _ _ _ h hF => ⟨h.1, hF⟩
theorem main_1_2 : Claimed_1_2 := comes_1 fun _ _ _ _ _ _ h hF => ⟨h.2.1, hF⟩
end Jvm.Pilot.@@N@@
namespace Jvm.Pilot.@@N@@
open Jvm Jvm.ClassFile Sem Op Lib Jvm.Free Jvm.Stand Jvm.Pilot.@@N@@.Jvm.D
/-! MADE BY PROGRAM (witnessworld.py) out of the Statement's table words and the real class files: 9 classes; the members and pool entries that the words name. The judged class is class 1, her method 1. -/
namespace start1
open Jvm.ClassFile
def u (s : String) : CpInfo := .utf8 (stringToUtf16 s)
/-- a pool by its gaps: so many unusable entries, then the entry; so many at the end -/
def gap : Nat → List CpInfo → List CpInfo
  | 0, r => r
  | n + 1, r => .unusable :: gap n r
def poolList (es : List (Nat × CpInfo)) (last : Nat) : List CpInfo := es.foldr (fun e r => gap e.1 (e.2 :: r)) (gap last [])
def pool (es : List (Nat × CpInfo)) (last : Nat) : Array CpInfo := ⟨poolList es last⟩
def fileOf (pool : Array CpInfo) (this : Nat) (attrs : Array Attribute := #[]) (ms : Array MethodInfo := #[]) (fl : Nat := 33) (sup : Nat := 0) (ifs : Array Nat := #[]) (fds : Array FieldInfo := #[]) : ClassFile where
  minorVersion := 0
  majorVersion := 65
  constantPool := pool
  accessFlags := fl
  thisClass := this
  superClass := sup
  interfaces := ifs
  fields := fds
  methods := ms
  attributes := attrs
def plain (name : String) (sup : Option ClassId) : Class where
  name := name
  kind := .ordinary
  loader := none
  accessFlags := 33
  super := sup
  interfaces := #[]
  cf := none
  fields := #[]
  methods := #[]
  instanceTypes := #[]
  staticTypes := #[]
  resolved := #[]
  callSites := []
  init := .initialized
  statics := none
  mirror := none

def pool0 : Array CpInfo := pool [(5, u "<init>"), (0, u "()V"), (1, .class_ 10), (1, u "java/lang/Object")] 113

def k0c0 : Code := { maxStack := 0, maxLocals := 1, code := object_method_1_code, exceptionTable := #[], attributes := #[] }
def k0m0 : Method := { name := "<init>", desc := "()V", sig := { parameters := [], returnType := none }, accessFlags := 1, code := some k0c0 }
/-- java/lang/Object -/
def k0 : Class := { plain "java/lang/Object" none with
  accessFlags := 33
  interfaces := #[]
  cf := some (fileOf pool0 8 #[] #[{ accessFlags := 1, nameIndex := 5, descriptorIndex := 6, attributes := #[] }] 33 0 #[] #[])
  fields := #[]
  methods := #[k0m0]
  instanceTypes := #[]
  staticTypes := #[]
  resolved := Array.replicate 124 none
  statics := none }

def pool1 : Array CpInfo := pool [(2, .class_ 4), (1, u "java/lang/Object"), (0, u "<init>"), (0, u "()V"), (0, .class_ 8), (0, u "com/example/folkweave/folkweave/model/IntGroups"), (0, .methodref 7 10), (0, .nameAndType 5 11), (0, u "([I[I)V"), (0, .methodref 7 13), (0, .nameAndType 14 15), (0, u "size"), (0, u "(I)I"), (0, .class_ 17), (0, u "com/example/folkweave/folkweave/model/IntGroupsSizePinLaw"), (2, u "law"), (0, u "(IIII)Z")] 5

def k1m0 : Method := { name := "<init>", desc := "()V", sig := { parameters := [], returnType := none }, accessFlags := 1, code := none }
def k1c1 : Code := { maxStack := 4, maxLocals := 11, code := code, exceptionTable := #[], attributes := #[] }
def k1m1 : Method := { name := "law", desc := "(IIII)Z", sig := { parameters := [.int, .int, .int, .int], returnType := some .boolean }, accessFlags := 9, code := some k1c1 }
/-- com/example/folkweave/folkweave/model/IntGroupsSizePinLaw -/
def k1 : Class := { plain "com/example/folkweave/folkweave/model/IntGroupsSizePinLaw" (some 0) with
  accessFlags := 49
  interfaces := #[]
  cf := some (fileOf pool1 16 #[] #[{ accessFlags := 1, nameIndex := 5, descriptorIndex := 6, attributes := #[] }, { accessFlags := 9, nameIndex := 20, descriptorIndex := 21, attributes := #[] }] 49 2 #[] #[])
  fields := #[]
  methods := #[k1m0, k1m1]
  instanceTypes := #[]
  staticTypes := #[]
  resolved := Array.replicate 27 none
  statics := none }

def pool2 : Array CpInfo := pool [(1, .methodref 2 3), (0, .class_ 4), (0, .nameAndType 5 6), (0, u "java/lang/Object"), (0, u "<init>"), (0, u "()V"), (0, .fieldref 8 9), (0, .class_ 10), (0, .nameAndType 11 12), (0, u "com/example/folkweave/folkweave/model/IntGroups"), (0, u "starts"), (0, u "[I"), (0, .fieldref 8 14), (0, .nameAndType 15 12), (0, u "members"), (8, u "size"), (0, u "(I)I"), (6, u "([I[I)V")] 9

def k2c0 : Code := { maxStack := 2, maxLocals := 3, code := prog_31_method_1_code, exceptionTable := #[], attributes := #[] }
def k2m0 : Method := { name := "<init>", desc := "([I[I)V", sig := { parameters := [(.array .int), (.array .int)], returnType := none }, accessFlags := 0, code := some k2c0 }
def k2c1 : Code := { maxStack := 3, maxLocals := 2, code := prog_31_method_4_code, exceptionTable := #[], attributes := #[] }
def k2m1 : Method := { name := "size", desc := "(I)I", sig := { parameters := [.int], returnType := some .int }, accessFlags := 0, code := some k2c1 }
/-- com/example/folkweave/folkweave/model/IntGroups -/
def k2 : Class := { plain "com/example/folkweave/folkweave/model/IntGroups" (some 0) with
  accessFlags := 48
  interfaces := #[]
  cf := some (fileOf pool2 8 #[] #[{ accessFlags := 0, nameIndex := 5, descriptorIndex := 32, attributes := #[] }, { accessFlags := 0, nameIndex := 24, descriptorIndex := 25, attributes := #[] }] 48 2 #[] #[{ accessFlags := 18, nameIndex := 11, descriptorIndex := 12, attributes := #[] }, { accessFlags := 18, nameIndex := 15, descriptorIndex := 12, attributes := #[] }])
  fields := #[{ name := "starts", type := (.array .int), accessFlags := 18, slot := 0, constantValue := 0 }, { name := "members", type := (.array .int), accessFlags := 18, slot := 1, constantValue := 0 }]
  methods := #[k2m0, k2m1]
  instanceTypes := #[(.array .int), (.array .int)]
  staticTypes := #[]
  resolved := Array.replicate 42 none
  statics := none }

def pool3 : Array CpInfo := pool [(1, u "java/lang/Cloneable"), (0, .class_ 1), (0, u "java/lang/Object"), (0, .class_ 3)] 3

/-- java/lang/Cloneable -/
def k3 : Class := { plain "java/lang/Cloneable" (some 0) with
  accessFlags := 1537
  interfaces := #[]
  cf := some (fileOf pool3 2 #[] #[] 1537 4 #[] #[])
  fields := #[]
  methods := #[]
  instanceTypes := #[]
  staticTypes := #[]
  resolved := Array.replicate 8 none
  statics := none }

def pool4 : Array CpInfo := pool [(1, u "java/io/Serializable"), (0, .class_ 1), (0, u "java/lang/Object"), (0, .class_ 3)] 3

/-- java/io/Serializable -/
def k4 : Class := { plain "java/io/Serializable" (some 0) with
  accessFlags := 1537
  interfaces := #[]
  cf := some (fileOf pool4 2 #[] #[] 1537 4 #[] #[])
  fields := #[]
  methods := #[]
  instanceTypes := #[]
  staticTypes := #[]
  resolved := Array.replicate 8 none
  statics := none }

/-- the primitive byte -/
def k5 : Class := { plain "byte" none with kind := .primitive 'B', accessFlags := 0x411 }
/-- [B -/
def k6 : Class := { plain "[B" (some 0) with kind := .array 5 .byte, interfaces := #[3, 4], accessFlags := 1041 }

/-- the primitive int -/
def k7 : Class := { plain "int" none with kind := .primitive 'I', accessFlags := 0x411 }
/-- [I -/
def k8 : Class := { plain "[I" (some 0) with kind := .array 7 .int, interfaces := #[3, 4], accessFlags := 1041 }

def heap : Heap := #[]
def classes : Array Class := #[k0, k1, k2, k3, k4, k5, k6, k7, k8]
def interned : List (Array UInt16 × Addr) := []
def slotsUsed : Nat := 0
def theMethod : MethodId := ⟨1, 1⟩
def args0 : Array Value := #[.int 5, .int 6, .int 7, .int 8]
def aboutOver (below : List Frame) : State where
  vm := { classes := classes, interned := interned.toArray }
  heap := heap
  slotsUsed := slotsUsed
  threads := #[{ frames := .invoking theMethod args0 :: below }]
def below0 : List Frame := [.native { method := ⟨0, 0⟩, args := #[] }]
def about1 : State := aboutOver below0
def p0 : Program := .bare "" "" ""
def e0 : Env := launch0.env 0 0 0
theorem w_frames : about1.frames = Frame.invoking theMethod args0 :: below0 := rfl
set_option maxRecDepth 65536 in
theorem w_args : argsFit about1.vm theMethod args0 = true := by decide +kernel
set_option maxRecDepth 65536 in
theorem w_heap : heapFits about1 = true := by decide +kernel
set_option maxRecDepth 65536 in
theorem w_runnable : about1.curStatus? = some .runnable := by decide +kernel
set_option maxRecDepth 65536 in
theorem w_alone : about1.alone = true := by decide +kernel
set_option maxRecDepth 65536 in
theorem w_named : about1.methodNamed? x = some theMethod := by decide +kernel
set_option maxRecDepth 65536 in
theorem w_hears : about1.hears theMethod below0 = true := by decide +kernel
set_option maxRecDepth 65536 in
theorem w_ripe : about1.ripe theMethod args0 below0 = true := by decide +kernel
theorem w_running : about1.status = .running := rfl
set_option maxRecDepth 65536 in
theorem w_room : about1.hasRoom e0.platform room_1 = true :=
  launch0.hasRoom_least _ room_1 (by decide +kernel) (by decide +kernel) (by decide +kernel) (by decide +kernel) (by decide +kernel) (by decide +kernel)
theorem allAtoms_all (ts : List Jvm.Cond) (a : Array Jvm.Value) (st : Jvm.State) : (allAtoms ts).before a st = ts.all (fun c => c.before a st) := by
  induction ts with
  | nil => rfl
  | cons c t ih =>
    show (Jvm.Cond.and c (allAtoms t)).before a st = _
    rw [Jvm.Cond.before_and, ih, List.all_cons]
def words1 : List Jvm.Cond := Jvm.Cond.code x code maxLocals ret :: tables_1
/-- a 'code' word, met by the world's own term for the bytes: nothing is compared byte by byte -/
theorem code_word {y : MethodName} {bytes : ByteArray} {mx : Nat} {rt : Option FieldType} {a : Array Value} {s : State} {m : MethodId} {meth : Method} {c : Code} (h1 : s.methodNamed? y = some m) (h2 : s.vm.method? m = some meth) (h3 : meth.code = some c) (h4 : c.code = bytes)
    (h5 : (c.maxLocals == mx && c.exceptionTable.isEmpty && decide (c.maxStack ≤ mostOperands) && decide (meth.sig.returnType = rt) && !meth.locks && decide (parseMethodDescriptor y.desc = some meth.sig)) = true) : (Jvm.Cond.code y bytes mx rt).before a s = true := by
  simp only [Bool.and_eq_true, beq_iff_eq, Bool.not_eq_true', decide_eq_true_eq] at h5
  obtain ⟨⟨⟨⟨⟨g1, g2⟩, g3⟩, g4⟩, g5⟩, g6⟩ := h5
  simp [Cond.before, Cond.holds, Cond.value, h1, h2, h3, h4, g1, g2, g3, g4, g5, g6]
def isCode : Jvm.Cond → Bool
  | .code _ _ _ _ => true
  | _ => false
theorem all_split {L : List Jvm.Cond} {P : Jvm.Cond → Bool} (h1 : L.all (fun c => isCode c || P c) = true) (h2 : ∀ c ∈ L.filter isCode, P c = true) : L.all P = true := by
  refine List.all_eq_true.mpr fun c hc => ?_
  have h := List.all_eq_true.mp h1 c hc
  rcases Bool.eq_false_or_eq_true (isCode c) with hi | hi
  · exact h2 c (List.mem_filter.mpr ⟨hc, hi⟩)
  · simpa [hi] using h
set_option maxRecDepth 65536 in
theorem w_c0 : (Jvm.Cond.code x code maxLocals ret).before args0 about1 = true := code_word (m := ⟨1, 1⟩) (meth := k1m1) (c := k1c1) (by decide +kernel) rfl rfl rfl (by decide +kernel)
set_option maxRecDepth 65536 in
theorem w_c1 : (Jvm.Cond.code ({ cls := "com/example/folkweave/folkweave/model/IntGroups", name := "<init>", desc := "([I[I)V" } : Jvm.MethodName) prog_31_method_1_code (3 : Nat) (Option.none : Option Jvm.ClassFile.FieldType)).before args0 about1 = true := code_word (m := ⟨2, 0⟩) (meth := k2m0) (c := k2c0) (by decide +kernel) rfl rfl rfl (by decide +kernel)
set_option maxRecDepth 65536 in
theorem w_c2 : (Jvm.Cond.code ({ cls := "java/lang/Object", name := "<init>", desc := "()V" } : Jvm.MethodName) object_method_1_code (1 : Nat) (Option.none : Option Jvm.ClassFile.FieldType)).before args0 about1 = true := code_word (m := ⟨0, 0⟩) (meth := k0m0) (c := k0c0) (by decide +kernel) rfl rfl rfl (by decide +kernel)
set_option maxRecDepth 65536 in
theorem w_c3 : (Jvm.Cond.code ({ cls := "com/example/folkweave/folkweave/model/IntGroups", name := "size", desc := "(I)I" } : Jvm.MethodName) prog_31_method_4_code (2 : Nat) (Option.some Jvm.ClassFile.FieldType.int)).before args0 about1 = true := code_word (m := ⟨2, 1⟩) (meth := k2m1) (c := k2c1) (by decide +kernel) rfl rfl rfl (by decide +kernel)
def codes1 : List Jvm.Cond := [Jvm.Cond.code x code maxLocals ret, Jvm.Cond.code ({ cls := "com/example/folkweave/folkweave/model/IntGroups", name := "<init>", desc := "([I[I)V" } : Jvm.MethodName) prog_31_method_1_code (3 : Nat) (Option.none : Option Jvm.ClassFile.FieldType), Jvm.Cond.code ({ cls := "java/lang/Object", name := "<init>", desc := "()V" } : Jvm.MethodName) object_method_1_code (1 : Nat) (Option.none : Option Jvm.ClassFile.FieldType), Jvm.Cond.code ({ cls := "com/example/folkweave/folkweave/model/IntGroups", name := "size", desc := "(I)I" } : Jvm.MethodName) prog_31_method_4_code (2 : Nat) (Option.some Jvm.ClassFile.FieldType.int)]
set_option maxRecDepth 65536 in
theorem codes_eq : words1.filter isCode = codes1 := rfl
theorem w_codes : ∀ c ∈ words1.filter isCode, c.before args0 about1 = true := by
  rw [codes_eq]
  intro c hc
  simp only [codes1, List.mem_cons, List.not_mem_nil, or_false] at hc
  rcases hc with rfl | rfl | rfl | rfl
  · exact w_c0
  · exact w_c1
  · exact w_c2
  · exact w_c3
set_option maxRecDepth 65536 in
theorem w_t1 : words1.all (fun c => isCode c || c.before args0 about1) = true := by decide +kernel
theorem w_tables : (allAtoms (Jvm.Cond.code x code maxLocals ret :: tables_1)).before args0 about1 = true := by
  rw [allAtoms_all]
  show words1.all (fun c => c.before args0 about1) = true
  refine all_split ?_ w_codes
  rw [w_t1]
set_option maxRecDepth 65536 in
theorem w_case : (Jvm.Cond.and given_1 narrow_1).before args0 about1 = true := by decide +kernel
theorem w_applies : (headSpec (Jvm.Cond.code x code maxLocals ret :: tables_1) room_1).applies x e0.platform about1 = true :=
  (Spec.applies_iff w_frames).mpr ⟨w_running, w_runnable, w_alone, w_named, w_hears, w_ripe, w_room, w_tables⟩
theorem atStart : AtStart classFile x code maxLocals ret World_1 tables_1 room_1 Calls_1 rest_1 Pre_1 launch0 p0 e0 about1 theMethod args0 below0 :=
  ⟨lists_1, trivial, launch0.admits_env _ _ _, launch0.least_env, fairChoices_fair.cas, fairChoices_fair.clock, w_frames, w_args, w_heap, w_applies, trivial, trivial, w_case⟩
end start1
theorem witness_1 : WitnessClaimed_1 := ⟨start1.p0, start1.e0, start1.about1, start1.theMethod, start1.args0, start1.below0, start1.atStart⟩
end Jvm.Pilot.@@N@@
