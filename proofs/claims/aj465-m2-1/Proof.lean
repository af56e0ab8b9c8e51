import JvmDerived
import JvmDerived.Pilot.@@N@@Statement
import JvmDerived.Pilot.@@N@@Code
set_option linter.unusedVariables false
set_option linter.unusedSimpArgs false
namespace Jvm.RoadKit
open Sem ClassFile Op Lib Jvm.Stand Jvm.Free Jvm.LawKit
section New
variable {p : Program} {l : Launch} {e : Env} {R : Room} {s : State} {m : MethodId} {args : Array Value} {below : List Frame} {meth : Method} {c : Code} {T : State} {locs : List Loc} {cells slots : Nat}
theorem retI (X : Stand p l e R s m args below meth c T locs cells slots) (hx : p.tables.exec = Jvm.exec) {pc : Nat} {Ls : Array Slot} {z : Int32} {rest : List Value} (hret : meth.sig.returnType = some .int) (hd : decode c.code pc = .ok (.ireturn, 1)) {fs : List Frame}
    (hl : ∀ (f : JFrame) (acts : List Action), f.method = m → f.locked = none → f.entered = [] → (doReturn e (T.setTop f) acts (some (.int z))).1 = T.setFrames fs) : Steps p.tables e below (T.setTop (mkF m pc Ls (.int z :: rest))) (T.setFrames fs) := by
  have hm' : T.vm.method? m = some meth := X.method'
  have hn : narrow .int (.int z) = .int z := rfl
  show Steps p.tables e below (T.setTop { method := m, pc := pc, locals := Ls, stack := _ :: rest, locked := none }) _
  jvm_step X.here [X.here.top, hx, hd, hm', hret, hn]
  first | (intro acts; rw [hl _ acts rfl rfl rfl]) | rw [hl _ _ rfl rfl rfl]
  exact Steps.refl _
end New
end Jvm.RoadKit
namespace Jvm.Pilot.@@N@@
open Jvm Jvm.ClassFile Sem Op Lib Jvm.Free Jvm.Stand Jvm.LawKit Jvm.RoadKit Bundle Jvm.Pilot.@@N@@.Jvm.D
theorem own_nn {n : Nat} (hn : n ≤ 255) : ¬ Int32.ofNat n < 0 := by
  rw [Int32.lt_iff_toInt_lt, Int32.toInt_ofNat_of_lt (by omega), show (0 : Int32).toInt = 0 from rfl]
  omega
theorem own_lt {i n : Nat} (h : i < n) (hn : n ≤ 255) : Int32.ofNat i < Int32.ofNat n := by
  rw [Int32.lt_iff_toInt_lt, Int32.toInt_ofNat_of_lt (by omega), Int32.toInt_ofNat_of_lt (by omega)]
  omega
theorem own_n32 {n : Nat} (hn : n ≤ 255) : (Int32.ofNat n).toNatClampNeg = n := by
  rw [Int32.toNatClampNeg, Int32.toInt_ofNat_of_lt (by omega)]; rfl
theorem own_one (i : Nat) : Int32.ofNat i + (1 : Int32) = Int32.ofNat (i + 1) := (Int32.ofNat_add i 1).symm
theorem own_mask (x : Int32) : ∃ n : Nat, n ≤ 255 ∧ (x &&& (255 : Int32)) = Int32.ofNat n := by
  refine ⟨(x &&& 255).toBitVec.toNat, ?_, ?_⟩
  · simp only [Int32.toBitVec_and, BitVec.toNat_and]
    exact Nat.and_le_right
  · apply Int32.toBitVec_inj.mp
    show _ = BitVec.ofNat 32 _
    rw [BitVec.ofNat_toNat]; simp
def own_vals (i : Nat) : List Value := (List.range i).map fun j => .int (Int32.ofNat j)
theorem own_len (i : Nat) : (own_vals i).length = i := by simp [own_vals]
theorem own_next (i : Nat) : own_vals i ++ [.int (Int32.ofNat i)] = own_vals (i + 1) := by simp [own_vals, List.range_succ]
theorem own_set (vs : List Value) (x v : Value) : (vs ++ [x]).set vs.length v = vs ++ [v] := by simp
theorem own_back {j : Int32} (h : ¬ j < 0) : Int32.ofNat j.toNatClampNeg = j := by
  rw [Int32.lt_iff_toInt_lt, show (0 : Int32).toInt = 0 from rfl] at h
  have h2 := Int32.toInt_lt j
  apply Int32.toInt_inj.mp
  rw [Int32.toInt_ofNat_of_lt (by rw [Int32.toNatClampNeg]; omega), Int32.toNatClampNeg]
  omega
theorem own_at {j : Int32} {n : Nat} (hn : n ≤ 255) (h : ¬ j < 0) (h2 : j < Int32.ofNat n) (d : Value) : (own_vals n).getD j.toNatClampNeg d = .int j := by
  have h3 : j.toNatClampNeg < n := by
    rw [Int32.lt_iff_toInt_lt, Int32.toInt_ofNat_of_lt (by omega)] at h2
    rw [Int32.lt_iff_toInt_lt, show (0 : Int32).toInt = 0 from rfl] at h
    rw [Int32.toNatClampNeg]; omega
  have h4 := own_back h
  generalize j.toNatClampNeg = k at *
  simp [own_vals, List.getD_eq_getElem?_getD, h3, h4]
theorem own_pos {n : Nat} (hn : n ≤ 255) (h : ¬ n = 0) : (0 : Int32) < Int32.ofNat n ∧ ¬ Int32.ofNat n = (0 : Int32) := by
  have : (0 : Int32) < Int32.ofNat n := by
    rw [Int32.lt_iff_toInt_lt, Int32.toInt_ofNat_of_lt (by omega), show (0 : Int32).toInt = 0 from rfl]; omega
  refine ⟨this, fun q => ?_⟩
  rw [q] at this
  exact Int32.lt_irrefl this
theorem own_pred {n : Nat} (hn : n ≤ 255) (h : ¬ n = 0) : ¬ (Int32.ofNat n - (1 : Int32)) < 0 ∧ (Int32.ofNat n - (1 : Int32)) < Int32.ofNat n := by
  have e : Int32.ofNat n - (1 : Int32) = Int32.ofNat (n - 1) := by
    obtain ⟨k, rfl⟩ : ∃ k, n = k + 1 := ⟨n - 1, by omega⟩
    rw [← own_one, Int32.add_sub_cancel]; rfl
  rw [e]
  exact ⟨own_nn (by omega), own_lt (by omega) hn⟩
theorem own_rem (x : Int32) {n : Nat} (hn : n ≤ 255) (h : ¬ n = 0) : ¬ ((x &&& (2147483647 : Int32)) % Int32.ofNat n) < 0 ∧ ((x &&& (2147483647 : Int32)) % Int32.ofNat n) < Int32.ofNat n := by
  have h1 := (c_and x 2147483647 (by decide)).1
  have h2 := (own_pos hn h).1
  rw [Int32.lt_iff_toInt_lt, show (0 : Int32).toInt = 0 from rfl] at h2
  have h3 := (c_iremV (x &&& 2147483647) (Int32.ofNat n)).1 h1 h2
  rw [Int32.lt_iff_toInt_lt, Int32.lt_iff_toInt_lt, show (0 : Int32).toInt = 0 from rfl]
  omega
theorem d1_6 : decode prog_13_method_2_code 6 = .ok (.iload_n 2, 1) := by decide +kernel
theorem d1_7 : decode prog_13_method_2_code 7 = .ok (.iload_n 0, 1) := by decide +kernel
theorem d1_8 : decode prog_13_method_2_code 8 = .ok (.if_icmp .ge 13, 3) := by decide +kernel
theorem d1_11 : decode prog_13_method_2_code 11 = .ok (.aload_n 1, 1) := by decide +kernel
theorem d1_12 : decode prog_13_method_2_code 12 = .ok (.iload_n 2, 1) := by decide +kernel
theorem d1_13 : decode prog_13_method_2_code 13 = .ok (.iload_n 2, 1) := by decide +kernel
theorem d1_14 : decode prog_13_method_2_code 14 = .ok (.iastore, 1) := by decide +kernel
theorem d1_15 : decode prog_13_method_2_code 15 = .ok (.iinc 2 1, 3) := by decide +kernel
theorem d1_18 : decode prog_13_method_2_code 18 = .ok (.goto (-12), 3) := by decide +kernel
set_option maxRecDepth 65536 in
set_option maxHeartbeats 40000000 in
theorem tn1_6_6 {p : Program} {l : Launch} {e : Env} {R : Room} {s : State} {m : MethodId} {args : Array Value} {below : List Frame} {meth : Method} {c : Code} {cells slots : Nat} {Z : State} {a0 : Array Value} {T0 : State} {locs : List Loc} {h0 : Heap} (i0 : Int32) (o1 : Addr) (i2 : Int32) (ka : ClassId) (N : Int32) (vs : List Value) (n0 : Nat)
    (X0 : Stand p l e R s m args below meth c T0 locs cells slots) (hx : p.tables.exec = Jvm.exec) (hZ : Z.Warmed39 s.vm) (hw : ∀ d ∈ tables_1, d.before a0 Z = true) (hby : c.code = prog_13_method_2_code) (hml : c.maxLocals = 3) (hown : s.vm.findClass "com/example/relaywright/relaywright/algorithms/KeyOrder" = some m.cls) (e0 : T0.heap = h0) (hc8 : i2 < i0) (V_o1 : Arv Z h0 o1 ka .int N vs (.int (0 : Int32))) (h2 : i2 = Int32.ofNat vs.length) (hl : vs.length < N.toNatClampNeg) (h255 : vs.length ≤ 255) (g_o1 : n0 ≤ o1) (N0 : Fr n0 locs) :
    ∃ (T' : State) (h' : Heap) (locs' : List Loc), Stand p l e R s m args below meth c T' locs' cells slots ∧ T'.heap = h' ∧ Fr n0 locs' ∧ Arv Z h' o1 ka .int N (vs ++ [.int i2]) (.int (0 : Int32)) ∧
      ∀ target, Steps p.tables e below (T'.setTop (mkF m 6 #[.val (.int i0), .val (.ref o1), .val (.int (i2 + (1 : Int32)))] [])) target → Steps p.tables e below (T0.setTop (mkF m 6 #[.val (.int i0), .val (.ref o1), .val (.int i2)] [])) target := by
  have V' : Arv Z h0 o1 ka .int N (vs ++ [.int (0 : Int32)]) (.int (0 : Int32)) := V_o1.pad (pad_rep vs (.int (0 : Int32)) 1)
  obtain ⟨cl_o1, Ar_o1, q_o1, S_o1, M_o1, H_o1, U_o1⟩ := V'
  have h2' : i2.toNatClampNeg = vs.length := by rw [h2]; exact own_n32 h255
  have hin14 : ¬ (i2 < 0 ∨ cl_o1.slots.size ≤ i2.toNatClampNeg) := by
    rw [S_o1, h2']
    exact fun q => q.elim (by rw [h2]; exact own_nn h255) (fun q => by omega)
  obtain ⟨T2, h2_, X2, e2, W2, st2⟩ := stI X0 hx hZ e0 Ar_o1 (j := i2) hin14 (g := (mkF m 14 #[.val (.int i0), .val (.ref o1), .val (.int i2)] [(.int i2), (.int i2), (.ref o1)])) rfl rfl (hb hby d1_14)
  have N2 := Fr.snoc X2 N0 g_o1
  have V2 := Arv.set Ar_o1 q_o1 S_o1 M_o1 H_o1 U_o1 rfl W2 vs.length h2' (by simp)
  rw [own_set] at V2
  refine ⟨T2, h2_, _, X2, e2, N2, V2, fun target kt => ?_⟩
  show Steps p.tables e below (T0.setTop (mkF m 6 #[.val (.int i0), .val (.ref o1), .val (.int i2)] [])) _
  refine XS.iloadN X0.here hx rfl (hb hby d1_6) rfl ?_
  show Steps p.tables e below (T0.setTop (mkF m 7 #[.val (.int i0), .val (.ref o1), .val (.int i2)] [(.int i2)])) _
  refine XS.iloadN X0.here hx rfl (hb hby d1_7) rfl ?_
  show Steps p.tables e below (T0.setTop (mkF m 8 #[.val (.int i0), .val (.ref o1), .val (.int i2)] [(.int i0), (.int i2)])) _
  refine XS.icmpNo X0.here hx rfl (hb hby d1_8) rfl (tlt hc8).2.1 ?_
  show Steps p.tables e below (T0.setTop (mkF m 11 #[.val (.int i0), .val (.ref o1), .val (.int i2)] [])) _
  refine XS.aloadN X0.here hx rfl (hb hby d1_11) rfl rfl ?_
  show Steps p.tables e below (T0.setTop (mkF m 12 #[.val (.int i0), .val (.ref o1), .val (.int i2)] [(.ref o1)])) _
  refine XS.iloadN X0.here hx rfl (hb hby d1_12) rfl ?_
  show Steps p.tables e below (T0.setTop (mkF m 13 #[.val (.int i0), .val (.ref o1), .val (.int i2)] [(.int i2), (.ref o1)])) _
  refine XS.iloadN X0.here hx rfl (hb hby d1_13) rfl ?_
  show Steps p.tables e below (T0.setTop (mkF m 14 #[.val (.int i0), .val (.ref o1), .val (.int i2)] [(.int i2), (.int i2), (.ref o1)])) _
  refine st2 _ ?_
  show Steps p.tables e below (T2.setTop (mkF m 15 #[.val (.int i0), .val (.ref o1), .val (.int i2)] [])) _
  refine XS.iinc X2.here hx rfl (hb hby d1_15) rfl (l' := #[.val (.int i0), .val (.ref o1), .val (.int (i2 + (1 : Int32)))]) rfl ?_
  show Steps p.tables e below (T2.setTop (mkF m 18 #[.val (.int i0), .val (.ref o1), .val (.int (i2 + (1 : Int32)))] [])) _
  refine XS.goto X2.here hx rfl (pc0 := 18) (pc' := 6) rfl (hb hby d1_18) (by decide) (by decide) ?_
  exact kt
set_option maxRecDepth 65536 in
set_option maxHeartbeats 40000000 in
theorem tn1_6_21 {p : Program} {l : Launch} {e : Env} {R : Room} {s : State} {m : MethodId} {args : Array Value} {below : List Frame} {meth : Method} {c : Code} {T0 : State} {locs : List Loc} {cells slots : Nat} {Z : State} {a0 : Array Value} {h0 : Heap} (i0 : Int32) (s1 : Slot) (i2 : Int32)
    (X0 : Stand p l e R s m args below meth c T0 locs cells slots) (hx : p.tables.exec = Jvm.exec) (hZ : Z.Warmed39 s.vm) (hw : ∀ d ∈ tables_1, d.before a0 Z = true) (hby : c.code = prog_13_method_2_code) (hml : c.maxLocals = 3) (hown : s.vm.findClass "com/example/relaywright/relaywright/algorithms/KeyOrder" = some m.cls) (e0 : T0.heap = h0) (hc8 : ¬ (i2 < i0)) :
    ∃ (T' : State), Stand p l e R s m args below meth c T' locs cells slots ∧ T'.heap = h0 ∧
      ∀ target, Steps p.tables e below (T'.setTop (mkF m 21 #[.val (.int i0), s1, .val (.int i2)] [])) target → Steps p.tables e below (T0.setTop (mkF m 6 #[.val (.int i0), s1, .val (.int i2)] [])) target := by
  refine ⟨T0, X0, e0, fun target kt => ?_⟩
  show Steps p.tables e below (T0.setTop (mkF m 6 #[.val (.int i0), s1, .val (.int i2)] [])) _
  refine XS.iloadN X0.here hx rfl (hb hby d1_6) rfl ?_
  show Steps p.tables e below (T0.setTop (mkF m 7 #[.val (.int i0), s1, .val (.int i2)] [(.int i2)])) _
  refine XS.iloadN X0.here hx rfl (hb hby d1_7) rfl ?_
  show Steps p.tables e below (T0.setTop (mkF m 8 #[.val (.int i0), s1, .val (.int i2)] [(.int i0), (.int i2)])) _
  refine XS.icmpYes X0.here hx rfl (pc0 := 8) (pc' := 21) rfl (hb hby d1_8) rfl (flt hc8).2.1 (by decide) (by decide) ?_
  exact kt
theorem d1_0 : decode prog_13_method_2_code 0 = .ok (.iload_n 0, 1) := by decide +kernel
theorem d1_1 : decode prog_13_method_2_code 1 = .ok (.newarray .int, 2) := by decide +kernel
theorem d1_3 : decode prog_13_method_2_code 3 = .ok (.astore_n 1, 1) := by decide +kernel
theorem d1_4 : decode prog_13_method_2_code 4 = .ok (.iconst 0, 1) := by decide +kernel
theorem d1_5 : decode prog_13_method_2_code 5 = .ok (.istore_n 2, 1) := by decide +kernel
theorem d1_21 : decode prog_13_method_2_code 21 = .ok (.aload_n 1, 1) := by decide +kernel
theorem d1_22 : decode prog_13_method_2_code 22 = .ok (.areturn, 1) := by decide +kernel
theorem pn_1 : plainName "com/example/relaywright/relaywright/algorithms/KeyOrder" = true := by first | (simp [plainName, overriddenIn]; done) | decide +kernel
theorem ef_1 (m : MethodId) (x0 : Int32) : entryFrame m #[(.int x0)] 3 = mkF m 0 #[.val (.int x0), .unset, .unset] [] := by first | (simp [entryFrame, mkF, argsToLocals, Value.category]; done) | rfl
def Q1 (Z : State) (n : Nat) (h0 : Heap) (n0 : Nat) (v : Option Value) (h : Heap) (L : List Loc) : Prop := v = some (.ref h0.size) ∧ Fr n0 L ∧ ∃ ka : ClassId, Arv Z h h0.size ka .int (Int32.ofNat n) (own_vals n) (.int (0 : Int32))
theorem loop1 {p : Program} {l : Launch} {e : Env} {R : Room} {s : State} {m : MethodId} {args : Array Value} {below : List Frame} {meth : Method} {c : Code} {cells slots : Nat} {Z : State} {a0 : Array Value} (o1 : Addr) (ka : ClassId) (n : Nat) (hn : n ≤ 255) (n0 : Nat) (g_o1 : n0 ≤ o1) (hx : p.tables.exec = Jvm.exec) (hZ : Z.Warmed39 s.vm) (hw : ∀ d ∈ tables_1, d.before a0 Z = true) (hby : c.code = prog_13_method_2_code) (hml : c.maxLocals = 3) (hown : s.vm.findClass "com/example/relaywright/relaywright/algorithms/KeyOrder" = some m.cls) :
    ∀ (k i : Nat) (T0 : State) (h0 : Heap) (locs : List Loc), i + k = n → Stand p l e R s m args below meth c T0 locs cells slots → T0.heap = h0 → Fr n0 locs → Arv Z h0 o1 ka .int (Int32.ofNat n) (own_vals i) (.int (0 : Int32)) →
      ∃ (T' : State) (h' : Heap) (locs' : List Loc), Stand p l e R s m args below meth c T' locs' cells slots ∧ T'.heap = h' ∧ Fr n0 locs' ∧ Arv Z h' o1 ka .int (Int32.ofNat n) (own_vals n) (.int (0 : Int32)) ∧
        ∀ target, Steps p.tables e below (T'.setTop (mkF m 21 #[.val (.int (Int32.ofNat n)), .val (.ref o1), .val (.int (Int32.ofNat n))] [])) target → Steps p.tables e below (T0.setTop (mkF m 6 #[.val (.int (Int32.ofNat n)), .val (.ref o1), .val (.int (Int32.ofNat i))] [])) target := by
  intro k
  induction k with
  | zero =>
    intro i T0 h0 locs hi X0 e0 N V
    have hi' : i = n := by omega
    rw [hi'] at V
    obtain ⟨T1, X1, e1, st1⟩ := tn1_6_21 (Int32.ofNat n) (.val (.ref o1)) (Int32.ofNat n) X0 hx hZ hw hby hml hown e0 Int32.lt_irrefl
    refine ⟨T1, h0, locs, X1, e1, N, V, fun target h => ?_⟩
    rw [hi']
    exact st1 target h
  | succ k ih =>
    intro i T0 h0 locs hi X0 e0 N V
    obtain ⟨T1, h1, L1, X1, e1, N1, V1, st1⟩ := tn1_6_6 (Int32.ofNat n) o1 (Int32.ofNat i) ka (Int32.ofNat n) _ n0 X0 hx hZ hw hby hml hown e0 (own_lt (by omega) hn) V (by rw [own_len]) (by rw [own_len, own_n32 hn]; omega) (by rw [own_len]; omega) g_o1 N
    rw [own_next] at V1
    obtain ⟨T', h', L', X', e', N', V', st⟩ := ih (i + 1) T1 h1 L1 (by omega) X1 e1 N1 V1
    refine ⟨T', h', L', X', e', N', V', fun target h => st1 target ?_⟩
    rw [own_one]
    exact st target h
set_option maxRecDepth 65536 in
set_option maxHeartbeats 40000000 in
theorem rm1 (l : Launch) (Z : State) (a0 : Array Value) (hw : ∀ d ∈ tables_1, d.before a0 Z = true) (ws : List Jvm.Cond) (n : Nat) (hn : n ≤ 255) (h0 : Heap) (n0 : Nat) (Z0 : n0 ≤ h0.size) :
    MetFree l (⟨"com/example/relaywright/relaywright/algorithms/KeyOrder", "identity", "(I)[I"⟩ : MethodName) (head1 (Jvm.Cond.code (⟨"com/example/relaywright/relaywright/algorithms/KeyOrder", "identity", "(I)[I"⟩ : MethodName) prog_13_method_2_code 3 (some (.array .int)) :: ws) ({ frames := 0, cells := 1, slots := 255, locals := 0 } : Room)) (fun a U => a = #[(.int (Int32.ofNat n))] ∧ Z.Warmed39 U.vm ∧ U.heap = h0) (fun _ _ _ _ _ => True) (fun _ U o U' => ∃ v L, o = .returned v ∧ Q1 Z n h0 n0 v U'.heap L ∧ FrameEnd U o U' L ({ frames := 0, cells := 1, slots := 255, locals := 0 } : Room).cells ({ frames := 0, cells := 1, slots := 255, locals := 0 } : Room).slots) := by
  refine MetFree.of_bodySF (plainFor_of_name pn_1) hisR ?_
  intro p e s m args below meth c s₁ Bd hml0 hP hK
  obtain ⟨rfl, hZ, hh⟩ := hP
  have hx := Bd.exec
  have hby := Bd.bytes
  have hml : c.maxLocals = 3 := hml0
  have hown : s.vm.findClass "com/example/relaywright/relaywright/algorithms/KeyOrder" = some m.cls := findClass_of_methodNamed Bd.named
  have hnm := (name_of_methodNamed Bd.named Bd.method).1
  have X0 : Stand p l e ({ frames := 0, cells := 1, slots := 255, locals := 0 } : Room) s m #[(.int (Int32.ofNat n))] below meth c s₁ [] 0 0 := Stand.of_body Bd
  have e0 : s₁.heap = h0 := by rw [← hh, Bd.state]; rfl
  have N0 := Fr.nil n0
  have pre0 : ∀ t, Steps p.tables e below (s₁.setTop (mkF m 0 #[.val (.int (Int32.ofNat n)), .unset, .unset] [])) t → Steps p.tables e below (s₁.setTop (entryFrame m #[(.int (Int32.ofNat n))] 3)) t := fun t k => castTop (ef_1 m (Int32.ofNat n)) k
  obtain ⟨T2, h2, k2, X2, e2, E2, A2, st2⟩ := newP X0 hx hZ (hw _ (List.mem_of_getElem? (i := 4) rfl)) e0 (g := (mkF m 1 #[.val (.int (Int32.ofNat n)), .unset, .unset] [(.int (Int32.ofNat n))])) rfl (hb hby d1_1) rfl (own_nn hn) (cap := 255) (by rw [own_n32 hn]; exact hn) (by decide) (by decide) (by decide)
  obtain ⟨b2, g2⟩ : ∃ z, z = h0.size := ⟨_, rfl⟩
  rw [← g2] at A2 st2
  have V_b2 := Arv.new A2 (own_nn hn)
  have g_b2 : n0 ≤ b2 := Nat.le_trans Z0 (Nat.le_of_eq g2.symm)
  have sz_b2 : h0.size ≤ b2 := (Nat.le_trans (Keep.refl h0 []).1 (Nat.le_of_eq g2.symm))
  have K2 : Keep h0 h2 [] := (Keep.refl h0 []).ext E2
  have V0 : Arv Z h2 b2 k2 .int (Int32.ofNat n) (own_vals 0) (.int (0 : Int32)) := V_b2
  obtain ⟨T3, h3, L3, X3, e3, N3, V3, st3⟩ := loop1 b2 k2 n hn n0 g_b2 hx hZ hw hby hml hown n 0 T2 h2 _ (by omega) X2 e2 N0 V0
  obtain ⟨fs, hr, hrun, hended, hW, hsame⟩ := X3.leave (v := some (.ref b2)) (fun h => by rw [Bd.returns] at h; cases h)
  refine ⟨_, _, pre0 _ ?_, hrun, hended, _, _, rfl, ?_, ⟨_, rfl⟩, hW, hsame.mono (by decide) (by decide)⟩
  · show Steps p.tables e below (s₁.setTop (mkF m 0 #[.val (.int (Int32.ofNat n)), .unset, .unset] [])) _
    refine XS.iloadN X0.here hx rfl (hb hby d1_0) rfl ?_
    show Steps p.tables e below (s₁.setTop (mkF m 1 #[.val (.int (Int32.ofNat n)), .unset, .unset] [(.int (Int32.ofNat n))])) _
    refine st2 _ ?_
    show Steps p.tables e below (T2.setTop (mkF m 3 #[.val (.int (Int32.ofNat n)), .unset, .unset] [(.ref b2)])) _
    refine XS.astoreN X2.here hx rfl (hb hby d1_3) rfl rfl (l' := #[.val (.int (Int32.ofNat n)), .val (.ref b2), .unset]) rfl ?_
    show Steps p.tables e below (T2.setTop (mkF m 4 #[.val (.int (Int32.ofNat n)), .val (.ref b2), .unset] [])) _
    refine XS.iconst X2.here hx rfl (hb hby d1_4) ?_
    show Steps p.tables e below (T2.setTop (mkF m 5 #[.val (.int (Int32.ofNat n)), .val (.ref b2), .unset] [(.int (0 : Int32))])) _
    refine XS.istoreN X2.here hx rfl (hb hby d1_5) rfl (l' := #[.val (.int (Int32.ofNat n)), .val (.ref b2), .val (.int (0 : Int32))]) rfl ?_
    show Steps p.tables e below (T2.setTop (mkF m 6 #[.val (.int (Int32.ofNat n)), .val (.ref b2), .val (.int (0 : Int32))] [])) _
    refine st3 _ ?_
    show Steps p.tables e below (T3.setTop (mkF m 21 #[.val (.int (Int32.ofNat n)), .val (.ref b2), .val (.int (Int32.ofNat n))] [])) _
    refine XS.aloadN X3.here hx rfl (hb hby d1_21) rfl rfl ?_
    show Steps p.tables e below (T3.setTop (mkF m 22 #[.val (.int (Int32.ofNat n)), .val (.ref b2), .val (.int (Int32.ofNat n))] [(.ref b2)])) _
    jvm_step X3.here [X3.here.top, hx, (hb hby d1_22), X3.method', Bd.returns, Value.isRef, FieldType.isReference]
    first | (intro acts; rw [hr _ acts rfl rfl rfl]) | rw [hr _ _ rfl rfl rfl]
    exact Steps.refl _
  · show Q1 Z n h0 n0 _ T3.heap _
    rw [e3]
    exact ⟨by rw [g2], N3, k2, by rw [← g2]; exact V3⟩
theorem pn_0 : plainName "com/example/relaywright/relaywright/algorithms/KeyOrderIdentityPinLaw" = true := by first | (simp [plainName, overriddenIn]; done) | decide +kernel
theorem pd_0_0 : parseMethodDescriptor "(I)[I" = some ⟨[.int], some (.array .int)⟩ := by decide +kernel
theorem ef_0 (m : MethodId) (x0 : Int32) (x1 : Int32) : entryFrame m #[(.int x0), (.int x1)] maxLocals = mkF m 0 #[.val (.int x0), .val (.int x1), .unset, .unset, .unset] [] := by first | (simp [entryFrame, mkF, argsToLocals, Value.category, maxLocals]; done) | rfl
def Q0 (Z : State) (p1 : Int32) (p2 : Int32) (h0 : Heap) (n0 : Nat) (v : Option Value) (h : Heap) (L : List Loc) : Prop := v = some (.int (1 : Int32)) ∧ Fr n0 L
set_option maxRecDepth 65536 in
set_option maxHeartbeats 40000000 in
theorem rm0_a (l : Launch) (Z : State) (a0 : Array Value) (hw : ∀ d ∈ tables_1, d.before a0 Z = true) (ws : List Jvm.Cond) (p1 : Int32) (p2 : Int32) (n : Nat) (hn : n ≤ 255) (hm : (p1 &&& (255 : Int32)) = Int32.ofNat n) (h0 : Heap) (n0 : Nat) (Z0 : n0 ≤ h0.size) (hz : n = 0) :
    MetFree l x (head1 (Jvm.Cond.code x code maxLocals ret :: ws) room_1) (fun a U => a = #[(.int p1), (.int p2)] ∧ Z.Warmed39 U.vm ∧ U.heap = h0) (fun _ _ _ _ _ => True) (fun _ U o U' => ∃ v L, o = .returned v ∧ Q0 Z p1 p2 h0 n0 v U'.heap L ∧ FrameEnd U o U' L room_1.cells room_1.slots) := by
  refine MetFree.of_bodySF (plainFor_of_name pn_0) hisR ?_
  intro p e s m args below meth c s₁ Bd hml0 hP hK
  obtain ⟨rfl, hZ, hh⟩ := hP
  have hx := Bd.exec
  have hby := Bd.bytes
  have hml : c.maxLocals = 5 := hml0
  have hown : s.vm.findClass "com/example/relaywright/relaywright/algorithms/KeyOrderIdentityPinLaw" = some m.cls := findClass_of_methodNamed Bd.named
  have hnm := (name_of_methodNamed Bd.named Bd.method).1
  have X0 : Stand p l e room_1 s m #[(.int p1), (.int p2)] below meth c s₁ [] 0 0 := Stand.of_body Bd
  have e0 : s₁.heap = h0 := by rw [← hh, Bd.state]; rfl
  have N0 := Fr.nil n0
  have pre0 : ∀ t, Steps p.tables e below (s₁.setTop (mkF m 0 #[.val (.int p1), .val (.int p2), .unset, .unset, .unset] [])) t → Steps p.tables e below (s₁.setTop (entryFrame m #[(.int p1), (.int p2)] maxLocals)) t := fun t k => castTop (ef_0 m p1 p2) k
  obtain ⟨_, _, ⟨T3, L3, k3, n3⟩, -, X3, ⟨Lc3, hQ3, l3, y3, z3⟩, st3⟩ := Jvm.LawKit.callS X0 hx (y := (⟨"com/example/relaywright/relaywright/algorithms/KeyOrder", "identity", "(I)[I"⟩ : MethodName)) hown (mvT hZ (hw _ (List.mem_of_getElem? (i := 0) rfl))) (mvT hZ (hw _ (List.mem_of_getElem? (i := 1) rfl))) (mvT hZ (hw _ (List.mem_of_getElem? (i := 2) rfl))) (mvT hZ (hw _ (List.mem_of_getElem? (i := 3) rfl))) (by decide) (backOf (W := 0) (rm1 l Z a0 hw [] n hn h0 n0 Z0) hZ (hw _ (List.mem_of_getElem? (i := 3) rfl)) (hw _ (List.mem_of_getElem? (i := 2) rfl)) (by decide) (by decide)) (g := (mkF m 7 #[.val (.int p1), .val (.int p2), .val (.int (Int32.ofNat n)), .unset, .unset] [(.int (Int32.ofNat n))])) rfl (by rw [hml]; rfl) (argsL := [(.int (Int32.ofNat n))]) (rest := []) (lenOf pd_0_0 rfl) rfl (by show 2 * 0 + _ ≤ _; exact Nat.le_of_eq rfl) (hb hby at_7) (fun _ _ => ⟨rfl, e0, (by decide : 0 + 1 ≤ _), (by decide : 0 + 255 ≤ _)⟩)
  dsimp only [Pt.U, Pt.locs, Pt.cells, Pt.slots] at X3 l3 y3 z3 st3 hQ3
  subst l3 y3 z3
  obtain ⟨rfl, N3q, ka, VB⟩ := hQ3
  have N3 := Fr.app N0 N3q
  obtain ⟨clB, ArB, -, SB, NB, HB, -⟩ := VB
  obtain ⟨fs, hr, hrun, hended, hW, hsame⟩ := X3.leave (v := some (.int (1 : Int32))) (fun h => by rw [Bd.returns] at h; cases h)
  refine ⟨_, _, pre0 _ ?_, hrun, hended, _, _, rfl, ?_, ⟨_, rfl⟩, hW, hsame.mono (by decide) (by decide)⟩
  · show Steps p.tables e below (s₁.setTop (mkF m 0 #[.val (.int p1), .val (.int p2), .unset, .unset, .unset] [])) _
    refine XS.iloadN X0.here hx rfl (hb hby at_0) rfl ?_
    show Steps p.tables e below (s₁.setTop (mkF m 1 #[.val (.int p1), .val (.int p2), .unset, .unset, .unset] [(.int p1)])) _
    refine XS.sipush X0.here hx rfl (hb hby at_1) ?_
    show Steps p.tables e below (s₁.setTop (mkF m 4 #[.val (.int p1), .val (.int p2), .unset, .unset, .unset] [(.int (255 : Int32)), (.int p1)])) _
    refine XS.iand X0.here hx rfl (hb hby at_4) rfl ?_
    show Steps p.tables e below (s₁.setTop (mkF m 5 #[.val (.int p1), .val (.int p2), .unset, .unset, .unset] [(.int (p1 &&& (255 : Int32)))])) _
    rw [hm]
    refine XS.istoreN X0.here hx rfl (hb hby at_5) rfl (l' := #[.val (.int p1), .val (.int p2), .val (.int (Int32.ofNat n)), .unset, .unset]) rfl ?_
    show Steps p.tables e below (s₁.setTop (mkF m 6 #[.val (.int p1), .val (.int p2), .val (.int (Int32.ofNat n)), .unset, .unset] [])) _
    refine XS.iloadN X0.here hx rfl (hb hby at_6) rfl ?_
    show Steps p.tables e below (s₁.setTop (mkF m 7 #[.val (.int p1), .val (.int p2), .val (.int (Int32.ofNat n)), .unset, .unset] [(.int (Int32.ofNat n))])) _
    refine st3 _ ?_
    show Steps p.tables e below (T3.setTop (mkF m 10 #[.val (.int p1), .val (.int p2), .val (.int (Int32.ofNat n)), .unset, .unset] [(.ref h0.size)])) _
    refine XS.astoreN X3.here hx rfl (hb hby at_10) rfl rfl (l' := #[.val (.int p1), .val (.int p2), .val (.int (Int32.ofNat n)), .val (.ref h0.size), .unset]) rfl ?_
    show Steps p.tables e below (T3.setTop (mkF m 11 #[.val (.int p1), .val (.int p2), .val (.int (Int32.ofNat n)), .val (.ref h0.size), .unset] [])) _
    refine XS.aloadN X3.here hx rfl (hb hby at_11) rfl rfl ?_
    show Steps p.tables e below (T3.setTop (mkF m 12 #[.val (.int p1), .val (.int p2), .val (.int (Int32.ofNat n)), .val (.ref h0.size), .unset] [(.ref h0.size)])) _
    refine X3.arraylength hx (by exact ArB.1) (State.isArrayOf_alike hZ.alike ArB.2.1) (g := (mkF m 12 #[.val (.int p1), .val (.int p2), .val (.int (Int32.ofNat n)), .val (.ref h0.size), .unset] [(.ref h0.size)])) rfl rfl (hb hby at_12) _ ?_
    rw [len_of SB NB]
    show Steps p.tables e below (T3.setTop (mkF m 13 #[.val (.int p1), .val (.int p2), .val (.int (Int32.ofNat n)), .val (.ref h0.size), .unset] [(.int (Int32.ofNat n))])) _
    refine XS.iloadN X3.here hx rfl (hb hby at_13) rfl ?_
    show Steps p.tables e below (T3.setTop (mkF m 14 #[.val (.int p1), .val (.int p2), .val (.int (Int32.ofNat n)), .val (.ref h0.size), .unset] [(.int (Int32.ofNat n)), (.int (Int32.ofNat n))])) _
    refine XS.icmpYes X3.here hx rfl (pc0 := 14) (pc' := 19) rfl (hb hby at_14) rfl (teq (rfl : (Int32.ofNat n) = (Int32.ofNat n))).1 (by decide) (by decide) ?_
    show Steps p.tables e below (T3.setTop (mkF m 19 #[.val (.int p1), .val (.int p2), .val (.int (Int32.ofNat n)), .val (.ref h0.size), .unset] [])) _
    refine XS.iloadN X3.here hx rfl (hb hby at_19) rfl ?_
    show Steps p.tables e below (T3.setTop (mkF m 20 #[.val (.int p1), .val (.int p2), .val (.int (Int32.ofNat n)), .val (.ref h0.size), .unset] [(.int (Int32.ofNat n))])) _
    refine XS.ifNo X3.here hx rfl (hb hby at_20) rfl ((if0 _ _).trans (teq (by rw [hz]; rfl : (Int32.ofNat n) = (0 : Int32))).2) ?_
    show Steps p.tables e below (T3.setTop (mkF m 23 #[.val (.int p1), .val (.int p2), .val (.int (Int32.ofNat n)), .val (.ref h0.size), .unset] [])) _
    refine XS.iconst X3.here hx rfl (hb hby at_23) ?_
    show Steps p.tables e below (T3.setTop (mkF m 24 #[.val (.int p1), .val (.int p2), .val (.int (Int32.ofNat n)), .val (.ref h0.size), .unset] [(.int (1 : Int32))])) _
    exact retN X3 hx (t := .boolean) Bd.returns (by simp) (hb hby at_24) hr
  · show Q0 Z p1 p2 h0 n0 _ T3.heap _
    exact ⟨rfl, N3⟩
set_option maxRecDepth 65536 in
set_option maxHeartbeats 40000000 in
theorem rm0_b (l : Launch) (Z : State) (a0 : Array Value) (hw : ∀ d ∈ tables_1, d.before a0 Z = true) (ws : List Jvm.Cond) (p1 : Int32) (p2 : Int32) (n : Nat) (hn : n ≤ 255) (hm : (p1 &&& (255 : Int32)) = Int32.ofNat n) (h0 : Heap) (n0 : Nat) (Z0 : n0 ≤ h0.size) (hz : ¬ n = 0) :
    MetFree l x (head1 (Jvm.Cond.code x code maxLocals ret :: ws) room_1) (fun a U => a = #[(.int p1), (.int p2)] ∧ Z.Warmed39 U.vm ∧ U.heap = h0) (fun _ _ _ _ _ => True) (fun _ U o U' => ∃ v L, o = .returned v ∧ Q0 Z p1 p2 h0 n0 v U'.heap L ∧ FrameEnd U o U' L room_1.cells room_1.slots) := by
  refine MetFree.of_bodySF (plainFor_of_name pn_0) hisR ?_
  intro p e s m args below meth c s₁ Bd hml0 hP hK
  obtain ⟨rfl, hZ, hh⟩ := hP
  have hx := Bd.exec
  have hby := Bd.bytes
  have hml : c.maxLocals = 5 := hml0
  have hown : s.vm.findClass "com/example/relaywright/relaywright/algorithms/KeyOrderIdentityPinLaw" = some m.cls := findClass_of_methodNamed Bd.named
  have hnm := (name_of_methodNamed Bd.named Bd.method).1
  have X0 : Stand p l e room_1 s m #[(.int p1), (.int p2)] below meth c s₁ [] 0 0 := Stand.of_body Bd
  have e0 : s₁.heap = h0 := by rw [← hh, Bd.state]; rfl
  have N0 := Fr.nil n0
  have pre0 : ∀ t, Steps p.tables e below (s₁.setTop (mkF m 0 #[.val (.int p1), .val (.int p2), .unset, .unset, .unset] [])) t → Steps p.tables e below (s₁.setTop (entryFrame m #[(.int p1), (.int p2)] maxLocals)) t := fun t k => castTop (ef_0 m p1 p2) k
  obtain ⟨_, _, ⟨T3, L3, k3, n3⟩, -, X3, ⟨Lc3, hQ3, l3, y3, z3⟩, st3⟩ := Jvm.LawKit.callS X0 hx (y := (⟨"com/example/relaywright/relaywright/algorithms/KeyOrder", "identity", "(I)[I"⟩ : MethodName)) hown (mvT hZ (hw _ (List.mem_of_getElem? (i := 0) rfl))) (mvT hZ (hw _ (List.mem_of_getElem? (i := 1) rfl))) (mvT hZ (hw _ (List.mem_of_getElem? (i := 2) rfl))) (mvT hZ (hw _ (List.mem_of_getElem? (i := 3) rfl))) (by decide) (backOf (W := 0) (rm1 l Z a0 hw [] n hn h0 n0 Z0) hZ (hw _ (List.mem_of_getElem? (i := 3) rfl)) (hw _ (List.mem_of_getElem? (i := 2) rfl)) (by decide) (by decide)) (g := (mkF m 7 #[.val (.int p1), .val (.int p2), .val (.int (Int32.ofNat n)), .unset, .unset] [(.int (Int32.ofNat n))])) rfl (by rw [hml]; rfl) (argsL := [(.int (Int32.ofNat n))]) (rest := []) (lenOf pd_0_0 rfl) rfl (by show 2 * 0 + _ ≤ _; exact Nat.le_of_eq rfl) (hb hby at_7) (fun _ _ => ⟨rfl, e0, (by decide : 0 + 1 ≤ _), (by decide : 0 + 255 ≤ _)⟩)
  dsimp only [Pt.U, Pt.locs, Pt.cells, Pt.slots] at X3 l3 y3 z3 st3 hQ3
  subst l3 y3 z3
  obtain ⟨rfl, N3q, ka, VB⟩ := hQ3
  have N3 := Fr.app N0 N3q
  obtain ⟨clB, ArB, -, SB, NB, HB, -⟩ := VB
  have hat : ∀ j : Int32, ¬ j < 0 ∧ j < Int32.ofNat n → clB.slots[j.toNatClampNeg]? = some (.int j) := fun j h => HB.at (inb_of SB h) (own_at hn h.1 h.2 _)
  have hin36 := inb_of SB (own_rem p2 hn hz)
  have hat36 := hat _ (own_rem p2 hn hz)
  have hin46 := inb_of SB (z := Int32.ofNat n) (j := 0) ⟨Int32.lt_irrefl, (own_pos hn hz).1⟩
  have hat46 := hat 0 ⟨Int32.lt_irrefl, (own_pos hn hz).1⟩
  have hin56 := inb_of SB (own_pred hn hz)
  have hat56 := hat _ (own_pred hn hz)
  obtain ⟨fs, hr, hrun, hended, hW, hsame⟩ := X3.leave (v := some (.int (1 : Int32))) (fun h => by rw [Bd.returns] at h; cases h)
  refine ⟨_, _, pre0 _ ?_, hrun, hended, _, _, rfl, ?_, ⟨_, rfl⟩, hW, hsame.mono (by decide) (by decide)⟩
  · show Steps p.tables e below (s₁.setTop (mkF m 0 #[.val (.int p1), .val (.int p2), .unset, .unset, .unset] [])) _
    refine XS.iloadN X0.here hx rfl (hb hby at_0) rfl ?_
    show Steps p.tables e below (s₁.setTop (mkF m 1 #[.val (.int p1), .val (.int p2), .unset, .unset, .unset] [(.int p1)])) _
    refine XS.sipush X0.here hx rfl (hb hby at_1) ?_
    show Steps p.tables e below (s₁.setTop (mkF m 4 #[.val (.int p1), .val (.int p2), .unset, .unset, .unset] [(.int (255 : Int32)), (.int p1)])) _
    refine XS.iand X0.here hx rfl (hb hby at_4) rfl ?_
    show Steps p.tables e below (s₁.setTop (mkF m 5 #[.val (.int p1), .val (.int p2), .unset, .unset, .unset] [(.int (p1 &&& (255 : Int32)))])) _
    rw [hm]
    refine XS.istoreN X0.here hx rfl (hb hby at_5) rfl (l' := #[.val (.int p1), .val (.int p2), .val (.int (Int32.ofNat n)), .unset, .unset]) rfl ?_
    show Steps p.tables e below (s₁.setTop (mkF m 6 #[.val (.int p1), .val (.int p2), .val (.int (Int32.ofNat n)), .unset, .unset] [])) _
    refine XS.iloadN X0.here hx rfl (hb hby at_6) rfl ?_
    show Steps p.tables e below (s₁.setTop (mkF m 7 #[.val (.int p1), .val (.int p2), .val (.int (Int32.ofNat n)), .unset, .unset] [(.int (Int32.ofNat n))])) _
    refine st3 _ ?_
    show Steps p.tables e below (T3.setTop (mkF m 10 #[.val (.int p1), .val (.int p2), .val (.int (Int32.ofNat n)), .unset, .unset] [(.ref h0.size)])) _
    refine XS.astoreN X3.here hx rfl (hb hby at_10) rfl rfl (l' := #[.val (.int p1), .val (.int p2), .val (.int (Int32.ofNat n)), .val (.ref h0.size), .unset]) rfl ?_
    show Steps p.tables e below (T3.setTop (mkF m 11 #[.val (.int p1), .val (.int p2), .val (.int (Int32.ofNat n)), .val (.ref h0.size), .unset] [])) _
    refine XS.aloadN X3.here hx rfl (hb hby at_11) rfl rfl ?_
    show Steps p.tables e below (T3.setTop (mkF m 12 #[.val (.int p1), .val (.int p2), .val (.int (Int32.ofNat n)), .val (.ref h0.size), .unset] [(.ref h0.size)])) _
    refine X3.arraylength hx (by exact ArB.1) (State.isArrayOf_alike hZ.alike ArB.2.1) (g := (mkF m 12 #[.val (.int p1), .val (.int p2), .val (.int (Int32.ofNat n)), .val (.ref h0.size), .unset] [(.ref h0.size)])) rfl rfl (hb hby at_12) _ ?_
    rw [len_of SB NB]
    show Steps p.tables e below (T3.setTop (mkF m 13 #[.val (.int p1), .val (.int p2), .val (.int (Int32.ofNat n)), .val (.ref h0.size), .unset] [(.int (Int32.ofNat n))])) _
    refine XS.iloadN X3.here hx rfl (hb hby at_13) rfl ?_
    show Steps p.tables e below (T3.setTop (mkF m 14 #[.val (.int p1), .val (.int p2), .val (.int (Int32.ofNat n)), .val (.ref h0.size), .unset] [(.int (Int32.ofNat n)), (.int (Int32.ofNat n))])) _
    refine XS.icmpYes X3.here hx rfl (pc0 := 14) (pc' := 19) rfl (hb hby at_14) rfl (teq (rfl : (Int32.ofNat n) = (Int32.ofNat n))).1 (by decide) (by decide) ?_
    show Steps p.tables e below (T3.setTop (mkF m 19 #[.val (.int p1), .val (.int p2), .val (.int (Int32.ofNat n)), .val (.ref h0.size), .unset] [])) _
    refine XS.iloadN X3.here hx rfl (hb hby at_19) rfl ?_
    show Steps p.tables e below (T3.setTop (mkF m 20 #[.val (.int p1), .val (.int p2), .val (.int (Int32.ofNat n)), .val (.ref h0.size), .unset] [(.int (Int32.ofNat n))])) _
    refine XS.ifYes X3.here hx rfl (pc0 := 20) (pc' := 25) rfl (hb hby at_20) rfl ((if0 _ _).trans (feq (own_pos hn hz).2).2) (by decide) (by decide) ?_
    show Steps p.tables e below (T3.setTop (mkF m 25 #[.val (.int p1), .val (.int p2), .val (.int (Int32.ofNat n)), .val (.ref h0.size), .unset] [])) _
    refine XS.iloadN X3.here hx rfl (hb hby at_25) rfl ?_
    show Steps p.tables e below (T3.setTop (mkF m 26 #[.val (.int p1), .val (.int p2), .val (.int (Int32.ofNat n)), .val (.ref h0.size), .unset] [(.int p2)])) _
    refine X3.ldcInt hx hown (mvT hZ (hw _ (List.mem_of_getElem? (i := 5) rfl))) (g := (mkF m 26 #[.val (.int p1), .val (.int p2), .val (.int (Int32.ofNat n)), .val (.ref h0.size), .unset] [(.int p2)])) rfl (hb hby at_26) _ ?_
    show Steps p.tables e below (T3.setTop (mkF m 28 #[.val (.int p1), .val (.int p2), .val (.int (Int32.ofNat n)), .val (.ref h0.size), .unset] [(.int (2147483647 : Int32)), (.int p2)])) _
    refine XS.iand X3.here hx rfl (hb hby at_28) rfl ?_
    show Steps p.tables e below (T3.setTop (mkF m 29 #[.val (.int p1), .val (.int p2), .val (.int (Int32.ofNat n)), .val (.ref h0.size), .unset] [(.int (p2 &&& (2147483647 : Int32)))])) _
    refine XS.iloadN X3.here hx rfl (hb hby at_29) rfl ?_
    show Steps p.tables e below (T3.setTop (mkF m 30 #[.val (.int p1), .val (.int p2), .val (.int (Int32.ofNat n)), .val (.ref h0.size), .unset] [(.int (Int32.ofNat n)), (.int (p2 &&& (2147483647 : Int32)))])) _
    refine iremM X3 hx rfl (hb hby at_30) rfl (own_pos hn hz).2 ?_
    show Steps p.tables e below (T3.setTop (mkF m 31 #[.val (.int p1), .val (.int p2), .val (.int (Int32.ofNat n)), .val (.ref h0.size), .unset] [(.int ((p2 &&& (2147483647 : Int32)) % (Int32.ofNat n)))])) _
    refine XS.istore X3.here hx rfl (hb hby at_31) rfl (l' := #[.val (.int p1), .val (.int p2), .val (.int (Int32.ofNat n)), .val (.ref h0.size), .val (.int ((p2 &&& (2147483647 : Int32)) % (Int32.ofNat n)))]) rfl ?_
    show Steps p.tables e below (T3.setTop (mkF m 33 #[.val (.int p1), .val (.int p2), .val (.int (Int32.ofNat n)), .val (.ref h0.size), .val (.int ((p2 &&& (2147483647 : Int32)) % (Int32.ofNat n)))] [])) _
    refine XS.aloadN X3.here hx rfl (hb hby at_33) rfl rfl ?_
    show Steps p.tables e below (T3.setTop (mkF m 34 #[.val (.int p1), .val (.int p2), .val (.int (Int32.ofNat n)), .val (.ref h0.size), .val (.int ((p2 &&& (2147483647 : Int32)) % (Int32.ofNat n)))] [(.ref h0.size)])) _
    refine XS.iload X3.here hx rfl (hb hby at_34) rfl ?_
    show Steps p.tables e below (T3.setTop (mkF m 36 #[.val (.int p1), .val (.int p2), .val (.int (Int32.ofNat n)), .val (.ref h0.size), .val (.int ((p2 &&& (2147483647 : Int32)) % (Int32.ofNat n)))] [(.int ((p2 &&& (2147483647 : Int32)) % (Int32.ofNat n))), (.ref h0.size)])) _
    refine X3.iaload hx (j := ((p2 &&& (2147483647 : Int32)) % (Int32.ofNat n))) (v := (.int ((p2 &&& (2147483647 : Int32)) % (Int32.ofNat n)))) (by exact ArB.1) (State.isArrayOf_alike hZ.alike ArB.2.1) ArB.2.2 hin36 hat36 (g := (mkF m 36 #[.val (.int p1), .val (.int p2), .val (.int (Int32.ofNat n)), .val (.ref h0.size), .val (.int ((p2 &&& (2147483647 : Int32)) % (Int32.ofNat n)))] [(.int ((p2 &&& (2147483647 : Int32)) % (Int32.ofNat n))), (.ref h0.size)])) rfl rfl (hb hby at_36) _ ?_
    show Steps p.tables e below (T3.setTop (mkF m 37 #[.val (.int p1), .val (.int p2), .val (.int (Int32.ofNat n)), .val (.ref h0.size), .val (.int ((p2 &&& (2147483647 : Int32)) % (Int32.ofNat n)))] [(.int ((p2 &&& (2147483647 : Int32)) % (Int32.ofNat n)))])) _
    refine XS.iload X3.here hx rfl (hb hby at_37) rfl ?_
    show Steps p.tables e below (T3.setTop (mkF m 39 #[.val (.int p1), .val (.int p2), .val (.int (Int32.ofNat n)), .val (.ref h0.size), .val (.int ((p2 &&& (2147483647 : Int32)) % (Int32.ofNat n)))] [(.int ((p2 &&& (2147483647 : Int32)) % (Int32.ofNat n))), (.int ((p2 &&& (2147483647 : Int32)) % (Int32.ofNat n)))])) _
    refine XS.icmpYes X3.here hx rfl (pc0 := 39) (pc' := 44) rfl (hb hby at_39) rfl (teq (rfl : ((p2 &&& (2147483647 : Int32)) % (Int32.ofNat n)) = ((p2 &&& (2147483647 : Int32)) % (Int32.ofNat n)))).1 (by decide) (by decide) ?_
    show Steps p.tables e below (T3.setTop (mkF m 44 #[.val (.int p1), .val (.int p2), .val (.int (Int32.ofNat n)), .val (.ref h0.size), .val (.int ((p2 &&& (2147483647 : Int32)) % (Int32.ofNat n)))] [])) _
    refine XS.aloadN X3.here hx rfl (hb hby at_44) rfl rfl ?_
    show Steps p.tables e below (T3.setTop (mkF m 45 #[.val (.int p1), .val (.int p2), .val (.int (Int32.ofNat n)), .val (.ref h0.size), .val (.int ((p2 &&& (2147483647 : Int32)) % (Int32.ofNat n)))] [(.ref h0.size)])) _
    refine XS.iconst X3.here hx rfl (hb hby at_45) ?_
    show Steps p.tables e below (T3.setTop (mkF m 46 #[.val (.int p1), .val (.int p2), .val (.int (Int32.ofNat n)), .val (.ref h0.size), .val (.int ((p2 &&& (2147483647 : Int32)) % (Int32.ofNat n)))] [(.int (0 : Int32)), (.ref h0.size)])) _
    refine X3.iaload hx (j := (0 : Int32)) (v := (.int (0 : Int32))) (by exact ArB.1) (State.isArrayOf_alike hZ.alike ArB.2.1) ArB.2.2 hin46 hat46 (g := (mkF m 46 #[.val (.int p1), .val (.int p2), .val (.int (Int32.ofNat n)), .val (.ref h0.size), .val (.int ((p2 &&& (2147483647 : Int32)) % (Int32.ofNat n)))] [(.int (0 : Int32)), (.ref h0.size)])) rfl rfl (hb hby at_46) _ ?_
    show Steps p.tables e below (T3.setTop (mkF m 47 #[.val (.int p1), .val (.int p2), .val (.int (Int32.ofNat n)), .val (.ref h0.size), .val (.int ((p2 &&& (2147483647 : Int32)) % (Int32.ofNat n)))] [(.int (0 : Int32))])) _
    refine XS.ifYes X3.here hx rfl (pc0 := 47) (pc' := 52) rfl (hb hby at_47) rfl ((if0 _ _).trans (teq (rfl : (0 : Int32) = (0 : Int32))).1) (by decide) (by decide) ?_
    show Steps p.tables e below (T3.setTop (mkF m 52 #[.val (.int p1), .val (.int p2), .val (.int (Int32.ofNat n)), .val (.ref h0.size), .val (.int ((p2 &&& (2147483647 : Int32)) % (Int32.ofNat n)))] [])) _
    refine XS.aloadN X3.here hx rfl (hb hby at_52) rfl rfl ?_
    show Steps p.tables e below (T3.setTop (mkF m 53 #[.val (.int p1), .val (.int p2), .val (.int (Int32.ofNat n)), .val (.ref h0.size), .val (.int ((p2 &&& (2147483647 : Int32)) % (Int32.ofNat n)))] [(.ref h0.size)])) _
    refine XS.iloadN X3.here hx rfl (hb hby at_53) rfl ?_
    show Steps p.tables e below (T3.setTop (mkF m 54 #[.val (.int p1), .val (.int p2), .val (.int (Int32.ofNat n)), .val (.ref h0.size), .val (.int ((p2 &&& (2147483647 : Int32)) % (Int32.ofNat n)))] [(.int (Int32.ofNat n)), (.ref h0.size)])) _
    refine XS.iconst X3.here hx rfl (hb hby at_54) ?_
    show Steps p.tables e below (T3.setTop (mkF m 55 #[.val (.int p1), .val (.int p2), .val (.int (Int32.ofNat n)), .val (.ref h0.size), .val (.int ((p2 &&& (2147483647 : Int32)) % (Int32.ofNat n)))] [(.int (1 : Int32)), (.int (Int32.ofNat n)), (.ref h0.size)])) _
    refine XS.isub X3.here hx rfl (hb hby at_55) rfl ?_
    show Steps p.tables e below (T3.setTop (mkF m 56 #[.val (.int p1), .val (.int p2), .val (.int (Int32.ofNat n)), .val (.ref h0.size), .val (.int ((p2 &&& (2147483647 : Int32)) % (Int32.ofNat n)))] [(.int ((Int32.ofNat n) - (1 : Int32))), (.ref h0.size)])) _
    refine X3.iaload hx (j := ((Int32.ofNat n) - (1 : Int32))) (v := (.int ((Int32.ofNat n) - (1 : Int32)))) (by exact ArB.1) (State.isArrayOf_alike hZ.alike ArB.2.1) ArB.2.2 hin56 hat56 (g := (mkF m 56 #[.val (.int p1), .val (.int p2), .val (.int (Int32.ofNat n)), .val (.ref h0.size), .val (.int ((p2 &&& (2147483647 : Int32)) % (Int32.ofNat n)))] [(.int ((Int32.ofNat n) - (1 : Int32))), (.ref h0.size)])) rfl rfl (hb hby at_56) _ ?_
    show Steps p.tables e below (T3.setTop (mkF m 57 #[.val (.int p1), .val (.int p2), .val (.int (Int32.ofNat n)), .val (.ref h0.size), .val (.int ((p2 &&& (2147483647 : Int32)) % (Int32.ofNat n)))] [(.int ((Int32.ofNat n) - (1 : Int32)))])) _
    refine XS.iloadN X3.here hx rfl (hb hby at_57) rfl ?_
    show Steps p.tables e below (T3.setTop (mkF m 58 #[.val (.int p1), .val (.int p2), .val (.int (Int32.ofNat n)), .val (.ref h0.size), .val (.int ((p2 &&& (2147483647 : Int32)) % (Int32.ofNat n)))] [(.int (Int32.ofNat n)), (.int ((Int32.ofNat n) - (1 : Int32)))])) _
    refine XS.iconst X3.here hx rfl (hb hby at_58) ?_
    show Steps p.tables e below (T3.setTop (mkF m 59 #[.val (.int p1), .val (.int p2), .val (.int (Int32.ofNat n)), .val (.ref h0.size), .val (.int ((p2 &&& (2147483647 : Int32)) % (Int32.ofNat n)))] [(.int (1 : Int32)), (.int (Int32.ofNat n)), (.int ((Int32.ofNat n) - (1 : Int32)))])) _
    refine XS.isub X3.here hx rfl (hb hby at_59) rfl ?_
    show Steps p.tables e below (T3.setTop (mkF m 60 #[.val (.int p1), .val (.int p2), .val (.int (Int32.ofNat n)), .val (.ref h0.size), .val (.int ((p2 &&& (2147483647 : Int32)) % (Int32.ofNat n)))] [(.int ((Int32.ofNat n) - (1 : Int32))), (.int ((Int32.ofNat n) - (1 : Int32)))])) _
    refine XS.icmpNo X3.here hx rfl (hb hby at_60) rfl (teq (rfl : ((Int32.ofNat n) - (1 : Int32)) = ((Int32.ofNat n) - (1 : Int32)))).2 ?_
    show Steps p.tables e below (T3.setTop (mkF m 63 #[.val (.int p1), .val (.int p2), .val (.int (Int32.ofNat n)), .val (.ref h0.size), .val (.int ((p2 &&& (2147483647 : Int32)) % (Int32.ofNat n)))] [])) _
    refine XS.iconst X3.here hx rfl (hb hby at_63) ?_
    show Steps p.tables e below (T3.setTop (mkF m 64 #[.val (.int p1), .val (.int p2), .val (.int (Int32.ofNat n)), .val (.ref h0.size), .val (.int ((p2 &&& (2147483647 : Int32)) % (Int32.ofNat n)))] [(.int (1 : Int32))])) _
    refine XS.goto X3.here hx rfl (pc0 := 64) (pc' := 68) rfl (hb hby at_64) (by decide) (by decide) ?_
    show Steps p.tables e below (T3.setTop (mkF m 68 #[.val (.int p1), .val (.int p2), .val (.int (Int32.ofNat n)), .val (.ref h0.size), .val (.int ((p2 &&& (2147483647 : Int32)) % (Int32.ofNat n)))] [(.int (1 : Int32))])) _
    exact retN X3 hx (t := .boolean) Bd.returns (by simp) (hb hby at_68) hr
  · show Q0 Z p1 p2 h0 n0 _ T3.heap _
    exact ⟨rfl, N3⟩
theorem rm0 (l : Launch) (Z : State) (a0 : Array Value) (hw : ∀ d ∈ tables_1, d.before a0 Z = true) (ws : List Jvm.Cond) (p1 : Int32) (p2 : Int32) (h0 : Heap) (n0 : Nat) (Z0 : n0 ≤ h0.size) :
    MetFree l x (head1 (Jvm.Cond.code x code maxLocals ret :: ws) room_1) (fun a U => a = #[(.int p1), (.int p2)] ∧ Z.Warmed39 U.vm ∧ U.heap = h0) (fun _ _ _ _ _ => True) (fun _ U o U' => ∃ v L, o = .returned v ∧ Q0 Z p1 p2 h0 n0 v U'.heap L ∧ FrameEnd U o U' L room_1.cells room_1.slots) := by
  obtain ⟨n, hn, hm⟩ := own_mask p1
  by_cases hz : n = 0
  · exact rm0_a l Z a0 hw ws p1 p2 n hn hm h0 n0 Z0 hz
  · exact rm0_b l Z a0 hw ws p1 p2 n hn hm h0 n0 Z0 hz
set_option maxRecDepth 65536 in
set_option maxHeartbeats 40000000 in
theorem comes_1 {Post : Tables → Env → Array Value → State → Outcome → State → Prop} (hpost : ∀ tb e args s v u, (limb_1_1.after args s (.returned v) u = true ∧ limb_1_2.after args s (.returned v) u = true ∧ True) → FrameEnd s (.returned v) u (Jvm.fieldLocs frame_1_writes args s ++ Jvm.arrayLocs frame_1_arrays args s ++ Jvm.staticLocs frame_1_statics s) 16 576 → Post tb e args s (.returned v) u) :
    ArmFor flags0 classFile x code maxLocals ret World_1 tables_1 room_1 Calls_1 rest_1 Pre_1 Post := by
  intro l hfl _ _ p e ha hc hk s m args below hf hA hF happ hP
  obtain ⟨hcalls, hrest, hpre⟩ := hP
  obtain ⟨-, -, -, hnamed, -, -, -, hat⟩ := (Spec.applies_iff hf).mp happ
  obtain ⟨hg, hn⟩ := and_e (Cond.before_iff.mp (show (Jvm.Cond.and given_1 narrow_1).before args s = true from hpre))
  obtain ⟨g7, g8⟩ := and_e hg
  obtain ⟨g9, g10⟩ := and_e g8
  obtain ⟨w0, w1, rfl⟩ : ∃ w0 w1 : Value, args = #[w0, w1] := by
    have hs : args.size = 2 := by simpa [Cond.value, given_1] using g7
    obtain ⟨L⟩ := args
    match L, hs with
    | [w0, w1], _ => exact ⟨w0, w1, rfl⟩
  have hw := fun d (hd : d ∈ tables_1) => atoms_spec (ws := Jvm.Cond.code x code maxLocals ret :: tables_1) hat d (List.mem_cons_of_mem _ hd)
  have hfit : Fit s := fun {y c} hc i hi => by
    obtain ⟨ha, rfl⟩ := Array.getElem?_eq_some_iff.mp hc
    have q := List.all_eq_true.mp ((Array.all_eq_true_iff_forall_mem.mp hF) _ (Array.getElem_mem ha)) i (List.mem_range.mpr hi)
    simpa [Array.getElem?_eq_getElem hi] using q
  obtain ⟨i0, ei0⟩ := is_v g9
  obtain rfl : w0 = (.int i0) := Option.some.inj ei0
  obtain ⟨i1, ei1⟩ := is_v g10
  obtain rfl : w1 = (.int i1) := Option.some.inj ei1
  obtain ⟨n, o, h1, h2, h3, _, L, rfl, ⟨rfl, N⟩, hq⟩ := rm0 l s _ hw tables_1 i0 i1 s.heap s.heap.size (Nat.le_refl _) p e ha hc hk s m _ below hf ((Spec.applies_iff_loose hf).mp happ).1 ⟨rfl, State.Warmed39.refl s, rfl⟩ trivial
  refine ⟨n, _, h1, h2, h3, hpost _ _ _ _ _ _ ⟨Cond.after_iff.mpr rfl, Cond.after_iff.mpr (eq_i res_at (Term.int_eval (1)) rfl), trivial⟩ ⟨hq.1, hq.2.1, (hq.2.2.sift fun y hy => Or.inr (N y hy)).mono (by decide) (by decide)⟩⟩
theorem main_1_1 : Claimed_1_1 := comes_1 fun _ _ _ _ _ _ h hF => ⟨h.1, hF⟩
theorem main_1_2 : Claimed_1_2 := comes_1 fun _ _ _ _ _ _ h hF => ⟨h.2.1, hF⟩
end Jvm.Pilot.@@N@@
namespace Jvm.Pilot.@@N@@
open Jvm Jvm.ClassFile Sem Op Lib Jvm.Free Jvm.Stand Jvm.Pilot.@@N@@.Jvm.D
/-! MADE BY PROGRAM (witnessworld.py) out of the Statement's table words and the real class files: 9 classes; the members and pool entries that the words name. The judged class is class 1, her method 1. -/
namespace start1
open Jvm.ClassFile
def u (s : String) : CpInfo := .utf8 (stringToUtf16 s)
/-- a pool by its gaps: so many unusable entries, then the entry; so many at the end -/
def gap : Nat → List CpInfo → List CpInfo
  | 0, r => r
  | n + 1, r => .unusable :: gap n r
def poolList (es : List (Nat × CpInfo)) (last : Nat) : List CpInfo := es.foldr (fun e r => gap e.1 (e.2 :: r)) (gap last [])
def pool (es : List (Nat × CpInfo)) (last : Nat) : Array CpInfo := ⟨poolList es last⟩
def fileOf (pool : Array CpInfo) (this : Nat) (attrs : Array Attribute := #[]) (ms : Array MethodInfo := #[]) (fl : Nat := 33) (sup : Nat := 0) (ifs : Array Nat := #[]) (fds : Array FieldInfo := #[]) : ClassFile where
  minorVersion := 0
  majorVersion := 65
  constantPool := pool
  accessFlags := fl
  thisClass := this
  superClass := sup
  interfaces := ifs
  fields := fds
  methods := ms
  attributes := attrs
def plain (name : String) (sup : Option ClassId) : Class where
  name := name
  kind := .ordinary
  loader := none
  accessFlags := 33
  super := sup
  interfaces := #[]
  cf := none
  fields := #[]
  methods := #[]
  instanceTypes := #[]
  staticTypes := #[]
  resolved := #[]
  callSites := []
  init := .initialized
  statics := none
  mirror := none

def pool0 : Array CpInfo := pool [(5, u "<init>"), (0, u "()V"), (1, .class_ 10), (1, u "java/lang/Object")] 113

def k0m0 : Method := { name := "<init>", desc := "()V", sig := { parameters := [], returnType := none }, accessFlags := 1, code := none }
/-- java/lang/Object -/
def k0 : Class := { plain "java/lang/Object" none with
  accessFlags := 33
  interfaces := #[]
  cf := some (fileOf pool0 8 #[] #[{ accessFlags := 1, nameIndex := 5, descriptorIndex := 6, attributes := #[] }] 33 0 #[] #[])
  fields := #[]
  methods := #[k0m0]
  instanceTypes := #[]
  staticTypes := #[]
  resolved := Array.replicate 124 none
  statics := none }

def pool1 : Array CpInfo := pool [(2, .class_ 4), (1, u "java/lang/Object"), (0, u "<init>"), (0, u "()V"), (0, .methodref 8 9), (0, .class_ 10), (0, .nameAndType 11 12), (0, u "com/example/relaywright/relaywright/algorithms/KeyOrder"), (0, u "identity"), (0, u "(I)[I"), (0, .integer 2147483647), (0, .class_ 15), (0, u "com/example/relaywright/relaywright/algorithms/KeyOrderIdentityPinLaw"), (2, u "law"), (0, u "(II)Z")] 5

def k1m0 : Method := { name := "<init>", desc := "()V", sig := { parameters := [], returnType := none }, accessFlags := 2, code := none }
def k1c1 : Code := { maxStack := 3, maxLocals := 5, code := code, exceptionTable := #[], attributes := #[] }
def k1m1 : Method := { name := "law", desc := "(II)Z", sig := { parameters := [.int, .int], returnType := some .boolean }, accessFlags := 9, code := some k1c1 }
/-- com/example/relaywright/relaywright/algorithms/KeyOrderIdentityPinLaw -/
def k1 : Class := { plain "com/example/relaywright/relaywright/algorithms/KeyOrderIdentityPinLaw" (some 0) with
  accessFlags := 49
  interfaces := #[]
  cf := some (fileOf pool1 14 #[] #[{ accessFlags := 2, nameIndex := 5, descriptorIndex := 6, attributes := #[] }, { accessFlags := 9, nameIndex := 18, descriptorIndex := 19, attributes := #[] }] 49 2 #[] #[])
  fields := #[]
  methods := #[k1m0, k1m1]
  instanceTypes := #[]
  staticTypes := #[]
  resolved := Array.replicate 25 none
  statics := none }

def pool2 : Array CpInfo := pool [(2, .class_ 4), (1, u "java/lang/Object"), (0, u "<init>"), (0, u "()V"), (0, .class_ 8), (0, u "com/example/relaywright/relaywright/algorithms/KeyOrder"), (28, u "FEW"), (0, u "I"), (4, u "identity"), (0, u "(I)[I")] 7

def k2m0 : Method := { name := "<init>", desc := "()V", sig := { parameters := [], returnType := none }, accessFlags := 2, code := none }
def k2c1 : Code := { maxStack := 3, maxLocals := 3, code := prog_13_method_2_code, exceptionTable := #[], attributes := #[] }
def k2m1 : Method := { name := "identity", desc := "(I)[I", sig := { parameters := [.int], returnType := some (.array .int) }, accessFlags := 8, code := some k2c1 }
/-- com/example/relaywright/relaywright/algorithms/KeyOrder -/
def k2 : Class := { plain "com/example/relaywright/relaywright/algorithms/KeyOrder" (some 0) with
  accessFlags := 48
  interfaces := #[]
  cf := some (fileOf pool2 7 #[] #[{ accessFlags := 2, nameIndex := 5, descriptorIndex := 6, attributes := #[] }, { accessFlags := 8, nameIndex := 43, descriptorIndex := 44, attributes := #[] }] 48 2 #[] #[{ accessFlags := 26, nameIndex := 37, descriptorIndex := 38, attributes := #[] }])
  fields := #[{ name := "FEW", type := .int, accessFlags := 26, slot := 0, constantValue := 0 }]
  methods := #[k2m0, k2m1]
  instanceTypes := #[]
  staticTypes := #[.int]
  resolved := Array.replicate 52 none
  statics := none }

def pool3 : Array CpInfo := pool [(1, u "java/lang/Cloneable"), (0, .class_ 1), (0, u "java/lang/Object"), (0, .class_ 3)] 3

/-- java/lang/Cloneable -/
def k3 : Class := { plain "java/lang/Cloneable" (some 0) with
  accessFlags := 1537
  interfaces := #[]
  cf := some (fileOf pool3 2 #[] #[] 1537 4 #[] #[])
  fields := #[]
  methods := #[]
  instanceTypes := #[]
  staticTypes := #[]
  resolved := Array.replicate 8 none
  statics := none }

def pool4 : Array CpInfo := pool [(1, u "java/io/Serializable"), (0, .class_ 1), (0, u "java/lang/Object"), (0, .class_ 3)] 3

/-- java/io/Serializable -/
def k4 : Class := { plain "java/io/Serializable" (some 0) with
  accessFlags := 1537
  interfaces := #[]
  cf := some (fileOf pool4 2 #[] #[] 1537 4 #[] #[])
  fields := #[]
  methods := #[]
  instanceTypes := #[]
  staticTypes := #[]
  resolved := Array.replicate 8 none
  statics := none }

/-- the primitive byte -/
def k5 : Class := { plain "byte" none with kind := .primitive 'B', accessFlags := 0x411 }
/-- [B -/
def k6 : Class := { plain "[B" (some 0) with kind := .array 5 .byte, interfaces := #[3, 4], accessFlags := 1041 }

/-- the primitive int -/
def k7 : Class := { plain "int" none with kind := .primitive 'I', accessFlags := 0x411 }
/-- [I -/
def k8 : Class := { plain "[I" (some 0) with kind := .array 7 .int, interfaces := #[3, 4], accessFlags := 1041 }

def heap : Heap := #[]
def classes : Array Class := #[k0, k1, k2, k3, k4, k5, k6, k7, k8]
def interned : List (Array UInt16 × Addr) := []
def slotsUsed : Nat := 0
def theMethod : MethodId := ⟨1, 1⟩
def args0 : Array Value := #[.int 5, .int 6]
def aboutOver (below : List Frame) : State where
  vm := { classes := classes, interned := interned.toArray }
  heap := heap
  slotsUsed := slotsUsed
  threads := #[{ frames := .invoking theMethod args0 :: below }]
def below0 : List Frame := [.native { method := ⟨0, 0⟩, args := #[] }]
def about1 : State := aboutOver below0
def p0 : Program := .bare "" "" ""
def e0 : Env := launch0.env 0 0 0
theorem w_frames : about1.frames = Frame.invoking theMethod args0 :: below0 := rfl
set_option maxRecDepth 65536 in
theorem w_args : argsFit about1.vm theMethod args0 = true := by decide +kernel
set_option maxRecDepth 65536 in
theorem w_heap : heapFits about1 = true := by decide +kernel
set_option maxRecDepth 65536 in
theorem w_runnable : about1.curStatus? = some .runnable := by decide +kernel
set_option maxRecDepth 65536 in
theorem w_alone : about1.alone = true := by decide +kernel
set_option maxRecDepth 65536 in
theorem w_named : about1.methodNamed? x = some theMethod := by decide +kernel
set_option maxRecDepth 65536 in
theorem w_hears : about1.hears theMethod below0 = true := by decide +kernel
set_option maxRecDepth 65536 in
theorem w_ripe : about1.ripe theMethod args0 below0 = true := by decide +kernel
theorem w_running : about1.status = .running := rfl
set_option maxRecDepth 65536 in
theorem w_room : about1.hasRoom e0.platform room_1 = true :=
  launch0.hasRoom_least _ room_1 (by decide +kernel) (by decide +kernel) (by decide +kernel) (by decide +kernel) (by decide +kernel) (by decide +kernel)
theorem allAtoms_all (ts : List Jvm.Cond) (a : Array Jvm.Value) (st : Jvm.State) : (allAtoms ts).before a st = ts.all (fun c => c.before a st) := by
  induction ts with
  | nil => rfl
  | cons c t ih =>
    show (Jvm.Cond.and c (allAtoms t)).before a st = _
    rw [Jvm.Cond.before_and, ih, List.all_cons]
def words1 : List Jvm.Cond := Jvm.Cond.code x code maxLocals ret :: tables_1
/-- a 'code' word, met by the world's own term for the bytes: nothing is compared byte by byte -/
theorem code_word {y : MethodName} {bytes : ByteArray} {mx : Nat} {rt : Option FieldType} {a : Array Value} {s : State} {m : MethodId} {meth : Method} {c : Code} (h1 : s.methodNamed? y = some m) (h2 : s.vm.method? m = some meth) (h3 : meth.code = some c) (h4 : c.code = bytes)
    (h5 : (c.maxLocals == mx && c.exceptionTable.isEmpty && decide (c.maxStack ≤ mostOperands) && decide (meth.sig.returnType = rt) && !meth.locks && decide (parseMethodDescriptor y.desc = some meth.sig)) = true) : (Jvm.Cond.code y bytes mx rt).before a s = true := by
  simp only [Bool.and_eq_true, beq_iff_eq, Bool.not_eq_true', decide_eq_true_eq] at h5
  obtain ⟨⟨⟨⟨⟨g1, g2⟩, g3⟩, g4⟩, g5⟩, g6⟩ := h5
  simp [Cond.before, Cond.holds, Cond.value, h1, h2, h3, h4, g1, g2, g3, g4, g5, g6]
def isCode : Jvm.Cond → Bool
  | .code _ _ _ _ => true
  | _ => false
theorem all_split {L : List Jvm.Cond} {P : Jvm.Cond → Bool} (h1 : L.all (fun c => isCode c || P c) = true) (h2 : ∀ c ∈ L.filter isCode, P c = true) : L.all P = true := by
  refine List.all_eq_true.mpr fun c hc => ?_
  have h := List.all_eq_true.mp h1 c hc
  rcases Bool.eq_false_or_eq_true (isCode c) with hi | hi
  · exact h2 c (List.mem_filter.mpr ⟨hc, hi⟩)
  · simpa [hi] using h
set_option maxRecDepth 65536 in
theorem w_c0 : (Jvm.Cond.code x code maxLocals ret).before args0 about1 = true := code_word (m := ⟨1, 1⟩) (meth := k1m1) (c := k1c1) (by decide +kernel) rfl rfl rfl (by decide +kernel)
set_option maxRecDepth 65536 in
theorem w_c1 : (Jvm.Cond.code ({ cls := "com/example/relaywright/relaywright/algorithms/KeyOrder", name := "identity", desc := "(I)[I" } : Jvm.MethodName) prog_13_method_2_code (3 : Nat) (Option.some (Jvm.ClassFile.FieldType.array Jvm.ClassFile.FieldType.int))).before args0 about1 = true := code_word (m := ⟨2, 1⟩) (meth := k2m1) (c := k2c1) (by decide +kernel) rfl rfl rfl (by decide +kernel)
def codes1 : List Jvm.Cond := [Jvm.Cond.code x code maxLocals ret, Jvm.Cond.code ({ cls := "com/example/relaywright/relaywright/algorithms/KeyOrder", name := "identity", desc := "(I)[I" } : Jvm.MethodName) prog_13_method_2_code (3 : Nat) (Option.some (Jvm.ClassFile.FieldType.array Jvm.ClassFile.FieldType.int))]
set_option maxRecDepth 65536 in
theorem codes_eq : words1.filter isCode = codes1 := rfl
theorem w_codes : ∀ c ∈ words1.filter isCode, c.before args0 about1 = true := by
  rw [codes_eq]
  intro c hc
  simp only [codes1, List.mem_cons, List.not_mem_nil, or_false] at hc
  rcases hc with rfl | rfl
  · exact w_c0
  · exact w_c1
set_option maxRecDepth 65536 in
theorem w_t1 : words1.all (fun c => isCode c || c.before args0 about1) = true := by decide +kernel
theorem w_tables : (allAtoms (Jvm.Cond.code x code maxLocals ret :: tables_1)).before args0 about1 = true := by
  rw [allAtoms_all]
  show words1.all (fun c => c.before args0 about1) = true
  refine all_split ?_ w_codes
  rw [w_t1]
set_option maxRecDepth 65536 in
theorem w_case : (Jvm.Cond.and given_1 narrow_1).before args0 about1 = true := by decide +kernel
theorem w_applies : (headSpec (Jvm.Cond.code x code maxLocals ret :: tables_1) room_1).applies x e0.platform about1 = true :=
  (Spec.applies_iff w_frames).mpr ⟨w_running, w_runnable, w_alone, w_named, w_hears, w_ripe, w_room, w_tables⟩
theorem atStart : AtStart classFile x code maxLocals ret World_1 tables_1 room_1 Calls_1 rest_1 Pre_1 launch0 p0 e0 about1 theMethod args0 below0 :=
  ⟨lists_1, trivial, launch0.admits_env _ _ _, launch0.least_env, fairChoices_fair.cas, fairChoices_fair.clock, w_frames, w_args, w_heap, w_applies, trivial, trivial, w_case⟩
end start1
theorem witness_1 : WitnessClaimed_1 := ⟨start1.p0, start1.e0, start1.about1, start1.theMethod, start1.args0, start1.below0, start1.atStart⟩
end Jvm.Pilot.@@N@@
