import JvmDerived
import JvmDerived.Pilot.@@N@@Statement
import JvmDerived.Pilot.@@N@@Code
set_option linter.unusedVariables false
set_option linter.unusedSimpArgs false
namespace Jvm.RoadKit
open Sem ClassFile Op Lib Jvm.Stand Jvm.Free Jvm.LawKit
section New
variable {p : Program} {l : Launch} {e : Env} {R : Room} {s : State} {m : MethodId} {args : Array Value} {below : List Frame} {meth : Method} {c : Code} {T : State} {locs : List Loc} {cells slots : Nat}
theorem retI (X : Stand p l e R s m args below meth c T locs cells slots) (hx : p.tables.exec = Jvm.exec) {pc : Nat} {Ls : Array Slot} {z : Int32} {rest : List Value} (hret : meth.sig.returnType = some .int) (hd : decode c.code pc = .ok (.ireturn, 1)) {fs : List Frame}
    (hl : ∀ (f : JFrame) (acts : List Action), f.method = m → f.locked = none → f.entered = [] → (doReturn e (T.setTop f) acts (some (.int z))).1 = T.setFrames fs) : Steps p.tables e below (T.setTop (mkF m pc Ls (.int z :: rest))) (T.setFrames fs) := by
  have hm' : T.vm.method? m = some meth := X.method'
  have hn : narrow .int (.int z) = .int z := rfl
  show Steps p.tables e below (T.setTop { method := m, pc := pc, locals := Ls, stack := _ :: rest, locked := none }) _
  jvm_step X.here [X.here.top, hx, hd, hm', hret, hn]
  first | (intro acts; rw [hl _ acts rfl rfl rfl]) | rw [hl _ _ rfl rfl rfl]
  exact Steps.refl _
end New
end Jvm.RoadKit
namespace Jvm.Pilot.@@N@@
open Jvm Jvm.ClassFile Sem Op Lib Jvm.Free Jvm.Stand Jvm.LawKit Jvm.RoadKit Bundle Jvm.Pilot.@@N@@.Jvm.D
theorem own_nn {n : Nat} (hn : n ≤ 255) : ¬ Int32.ofNat n < 0 := by
  rw [Int32.lt_iff_toInt_lt, Int32.toInt_ofNat_of_lt (by omega), show (0 : Int32).toInt = 0 from rfl]
  omega
theorem own_lt {i n : Nat} (h : i < n) (hn : n ≤ 255) : Int32.ofNat i < Int32.ofNat n := by
  rw [Int32.lt_iff_toInt_lt, Int32.toInt_ofNat_of_lt (by omega), Int32.toInt_ofNat_of_lt (by omega)]
  omega
theorem own_n32 {n : Nat} (hn : n ≤ 255) : (Int32.ofNat n).toNatClampNeg = n := by
  rw [Int32.toNatClampNeg, Int32.toInt_ofNat_of_lt (by omega)]; rfl
theorem own_one (i : Nat) : Int32.ofNat i + (1 : Int32) = Int32.ofNat (i + 1) := (Int32.ofNat_add i 1).symm
def own_acc (f : Nat → Int64) : Nat → Nat → Int64 → Int64
  | 0, _, S => S
  | k + 1, i, S => own_acc f k (i + 1) (S + f i)
def own_two (a b : Slot) : Prop := (a = .unset ∧ b = .unset) ∨ ∃ x : Int64, a = .val (.long x) ∧ b = .second
theorem own_os {s0 s6 s7 : Slot} {j1 w : Int64} {o3 : Addr} {i4 i5 : Int32} (h : own_two s6 s7) : storeLocals #[s0, .val (.long j1), .second, .val (.ref o3), .val (.int i4), .val (.int i5), s6, s7] 6 (.long w) = some #[s0, .val (.long j1), .second, .val (.ref o3), .val (.int i4), .val (.int i5), .val (.long w), .second] := by
  rcases h with ⟨rfl, rfl⟩ | ⟨x, rfl, rfl⟩
  · rfl
  · rfl
theorem own_k (x : Int32) : ((x &&& (2147483647 : Int32)) % (5 : Int32)) = (0 : Int32) ∨ ((x &&& (2147483647 : Int32)) % (5 : Int32)) = (1 : Int32) ∨ ((x &&& (2147483647 : Int32)) % (5 : Int32)) = (2 : Int32) ∨ ((x &&& (2147483647 : Int32)) % (5 : Int32)) = (3 : Int32) ∨ ((x &&& (2147483647 : Int32)) % (5 : Int32)) = (4 : Int32) := by
  have h1 := (c_and x 2147483647 (by decide)).1
  have h2 := (c_irem (x &&& 2147483647) 5 5 (by decide)).1 h1
  simp only [← Int32.toInt_inj]
  rw [show (0 : Int32).toInt = 0 from rfl, show (1 : Int32).toInt = 1 from rfl, show (2 : Int32).toInt = 2 from rfl, show (3 : Int32).toInt = 3 from rfl, show (4 : Int32).toInt = 4 from rfl]
  omega
theorem d1_11 : decode prog_86_method_6_code 11 = .ok (.iload 5, 2) := by decide +kernel
theorem d1_13 : decode prog_86_method_6_code 13 = .ok (.iload 4, 2) := by decide +kernel
theorem d1_15 : decode prog_86_method_6_code 15 = .ok (.if_icmp .ge 20, 3) := by decide +kernel
theorem d1_18 : decode prog_86_method_6_code 18 = .ok (.aload_n 3, 1) := by decide +kernel
theorem d1_19 : decode prog_86_method_6_code 19 = .ok (.iload 5, 2) := by decide +kernel
theorem d1_21 : decode prog_86_method_6_code 21 = .ok (.laload, 1) := by decide +kernel
theorem d1_22 : decode prog_86_method_6_code 22 = .ok (.lstore 6, 2) := by decide +kernel
theorem d1_24 : decode prog_86_method_6_code 24 = .ok (.lload_n 1, 1) := by decide +kernel
theorem d1_25 : decode prog_86_method_6_code 25 = .ok (.lload 6, 2) := by decide +kernel
theorem d1_27 : decode prog_86_method_6_code 27 = .ok (.ladd, 1) := by decide +kernel
theorem d1_28 : decode prog_86_method_6_code 28 = .ok (.lstore_n 1, 1) := by decide +kernel
theorem d1_29 : decode prog_86_method_6_code 29 = .ok (.iinc 5 1, 3) := by decide +kernel
theorem d1_32 : decode prog_86_method_6_code 32 = .ok (.goto (-21), 3) := by decide +kernel
set_option maxRecDepth 65536 in
set_option maxHeartbeats 40000000 in
theorem tn1_11_11 {p : Program} {l : Launch} {e : Env} {R : Room} {s : State} {m : MethodId} {args : Array Value} {below : List Frame} {meth : Method} {c : Code} {T0 : State} {locs : List Loc} {cells slots : Nat} {Z : State} {a0 : Array Value} {h0 : Heap} (s0 : Slot) (j1 : Int64) (o3 : Addr) (i4 : Int32) (i5 : Int32) (s6 : Slot) (s7 : Slot) (w2 : Int64) (cl_o3 : Cell)
    (X0 : Stand p l e R s m args below meth c T0 locs cells slots) (hx : p.tables.exec = Jvm.exec) (hZ : Z.Warmed39 s.vm) (hw : ∀ d ∈ tables_1, d.before a0 Z = true) (hby : c.code = prog_86_method_6_code) (hml : c.maxLocals = 8) (hown : s.vm.findClass "com/example/turnstile/turnstile/lab/Workers" = some m.cls) (e0 : T0.heap = h0) (Ar_o3 : Arr Z h0 o3 cl_o3 .long) (hin21 : ¬ (i5 < 0 ∨ cl_o3.slots.size ≤ (i5).toNatClampNeg)) (hat21 : cl_o3.slots[(i5).toNatClampNeg]? = some (.long w2)) (hc15 : i5 < i4) (h67 : own_two s6 s7) :
    ∃ (T' : State), Stand p l e R s m args below meth c T' locs cells slots ∧ T'.heap = h0 ∧
      ∀ target, Steps p.tables e below (T'.setTop (mkF m 11 #[s0, .val (.long (j1 + w2)), .second, .val (.ref o3), .val (.int i4), .val (.int (i5 + (1 : Int32))), .val (.long w2), .second] [])) target → Steps p.tables e below (T0.setTop (mkF m 11 #[s0, .val (.long j1), .second, .val (.ref o3), .val (.int i4), .val (.int i5), s6, s7] [])) target := by
  refine ⟨T0, X0, e0, fun target kt => ?_⟩
  show Steps p.tables e below (T0.setTop (mkF m 11 #[s0, .val (.long j1), .second, .val (.ref o3), .val (.int i4), .val (.int i5), s6, s7] [])) _
  refine XS.iload X0.here hx rfl (hb hby d1_11) rfl ?_
  show Steps p.tables e below (T0.setTop (mkF m 13 #[s0, .val (.long j1), .second, .val (.ref o3), .val (.int i4), .val (.int i5), s6, s7] [(.int i5)])) _
  refine XS.iload X0.here hx rfl (hb hby d1_13) rfl ?_
  show Steps p.tables e below (T0.setTop (mkF m 15 #[s0, .val (.long j1), .second, .val (.ref o3), .val (.int i4), .val (.int i5), s6, s7] [(.int i4), (.int i5)])) _
  refine XS.icmpNo X0.here hx rfl (hb hby d1_15) rfl (tlt hc15).2.1 ?_
  show Steps p.tables e below (T0.setTop (mkF m 18 #[s0, .val (.long j1), .second, .val (.ref o3), .val (.int i4), .val (.int i5), s6, s7] [])) _
  refine XS.aloadN X0.here hx rfl (hb hby d1_18) rfl rfl ?_
  show Steps p.tables e below (T0.setTop (mkF m 19 #[s0, .val (.long j1), .second, .val (.ref o3), .val (.int i4), .val (.int i5), s6, s7] [(.ref o3)])) _
  refine XS.iload X0.here hx rfl (hb hby d1_19) rfl ?_
  show Steps p.tables e below (T0.setTop (mkF m 21 #[s0, .val (.long j1), .second, .val (.ref o3), .val (.int i4), .val (.int i5), s6, s7] [(.int i5), (.ref o3)])) _
  refine X0.laload hx (j := i5) (v := (.long w2)) (by rw [e0]; exact Ar_o3.1) (State.isArrayOf_alike hZ.alike Ar_o3.2.1) Ar_o3.2.2 hin21 hat21 (g := (mkF m 21 #[s0, .val (.long j1), .second, .val (.ref o3), .val (.int i4), .val (.int i5), s6, s7] [(.int i5), (.ref o3)])) rfl rfl (hb hby d1_21) _ ?_
  show Steps p.tables e below (T0.setTop (mkF m 22 #[s0, .val (.long j1), .second, .val (.ref o3), .val (.int i4), .val (.int i5), s6, s7] [(.long w2)])) _
  refine XS.lstore X0.here hx rfl (hb hby d1_22) rfl (l' := #[s0, .val (.long j1), .second, .val (.ref o3), .val (.int i4), .val (.int i5), .val (.long w2), .second]) (own_os h67) ?_
  show Steps p.tables e below (T0.setTop (mkF m 24 #[s0, .val (.long j1), .second, .val (.ref o3), .val (.int i4), .val (.int i5), .val (.long w2), .second] [])) _
  refine XS.lloadN X0.here hx rfl (hb hby d1_24) rfl ?_
  show Steps p.tables e below (T0.setTop (mkF m 25 #[s0, .val (.long j1), .second, .val (.ref o3), .val (.int i4), .val (.int i5), .val (.long w2), .second] [(.long j1)])) _
  refine XS.lload X0.here hx rfl (hb hby d1_25) rfl ?_
  show Steps p.tables e below (T0.setTop (mkF m 27 #[s0, .val (.long j1), .second, .val (.ref o3), .val (.int i4), .val (.int i5), .val (.long w2), .second] [(.long w2), (.long j1)])) _
  refine XS.ladd X0.here hx rfl (hb hby d1_27) rfl ?_
  show Steps p.tables e below (T0.setTop (mkF m 28 #[s0, .val (.long j1), .second, .val (.ref o3), .val (.int i4), .val (.int i5), .val (.long w2), .second] [(.long (j1 + w2))])) _
  refine XS.lstoreN X0.here hx rfl (hb hby d1_28) rfl (l' := #[s0, .val (.long (j1 + w2)), .second, .val (.ref o3), .val (.int i4), .val (.int i5), .val (.long w2), .second]) rfl ?_
  show Steps p.tables e below (T0.setTop (mkF m 29 #[s0, .val (.long (j1 + w2)), .second, .val (.ref o3), .val (.int i4), .val (.int i5), .val (.long w2), .second] [])) _
  refine XS.iinc X0.here hx rfl (hb hby d1_29) rfl (l' := #[s0, .val (.long (j1 + w2)), .second, .val (.ref o3), .val (.int i4), .val (.int (i5 + (1 : Int32))), .val (.long w2), .second]) rfl ?_
  show Steps p.tables e below (T0.setTop (mkF m 32 #[s0, .val (.long (j1 + w2)), .second, .val (.ref o3), .val (.int i4), .val (.int (i5 + (1 : Int32))), .val (.long w2), .second] [])) _
  refine XS.goto X0.here hx rfl (pc0 := 32) (pc' := 11) rfl (hb hby d1_32) (by decide) (by decide) ?_
  exact kt
set_option maxRecDepth 65536 in
set_option maxHeartbeats 40000000 in
theorem tn1_11_35 {p : Program} {l : Launch} {e : Env} {R : Room} {s : State} {m : MethodId} {args : Array Value} {below : List Frame} {meth : Method} {c : Code} {T0 : State} {locs : List Loc} {cells slots : Nat} {Z : State} {a0 : Array Value} {h0 : Heap} (s0 : Slot) (s1 : Slot) (s2 : Slot) (s3 : Slot) (i4 : Int32) (i5 : Int32) (s6 : Slot) (s7 : Slot)
    (X0 : Stand p l e R s m args below meth c T0 locs cells slots) (hx : p.tables.exec = Jvm.exec) (hZ : Z.Warmed39 s.vm) (hw : ∀ d ∈ tables_1, d.before a0 Z = true) (hby : c.code = prog_86_method_6_code) (hml : c.maxLocals = 8) (hown : s.vm.findClass "com/example/turnstile/turnstile/lab/Workers" = some m.cls) (e0 : T0.heap = h0) (hc15 : ¬ (i5 < i4)) :
    ∃ (T' : State), Stand p l e R s m args below meth c T' locs cells slots ∧ T'.heap = h0 ∧
      ∀ target, Steps p.tables e below (T'.setTop (mkF m 35 #[s0, s1, s2, s3, .val (.int i4), .val (.int i5), s6, s7] [])) target → Steps p.tables e below (T0.setTop (mkF m 11 #[s0, s1, s2, s3, .val (.int i4), .val (.int i5), s6, s7] [])) target := by
  refine ⟨T0, X0, e0, fun target kt => ?_⟩
  show Steps p.tables e below (T0.setTop (mkF m 11 #[s0, s1, s2, s3, .val (.int i4), .val (.int i5), s6, s7] [])) _
  refine XS.iload X0.here hx rfl (hb hby d1_11) rfl ?_
  show Steps p.tables e below (T0.setTop (mkF m 13 #[s0, s1, s2, s3, .val (.int i4), .val (.int i5), s6, s7] [(.int i5)])) _
  refine XS.iload X0.here hx rfl (hb hby d1_13) rfl ?_
  show Steps p.tables e below (T0.setTop (mkF m 15 #[s0, s1, s2, s3, .val (.int i4), .val (.int i5), s6, s7] [(.int i4), (.int i5)])) _
  refine XS.icmpYes X0.here hx rfl (pc0 := 15) (pc' := 35) rfl (hb hby d1_15) rfl (flt hc15).2.1 (by decide) (by decide) ?_
  exact kt
theorem loop1 {p : Program} {l : Launch} {e : Env} {R : Room} {s : State} {m : MethodId} {args : Array Value} {below : List Frame} {meth : Method} {c : Code} {locs : List Loc} {cells slots : Nat} {Z : State} {a0 : Array Value} {h0 : Heap} (s0 : Slot) (o3 : Addr) (f : Nat → Int64) (n : Nat) (hn : n ≤ 255) (hx : p.tables.exec = Jvm.exec) (hZ : Z.Warmed39 s.vm) (hw : ∀ d ∈ tables_1, d.before a0 Z = true) (hby : c.code = prog_86_method_6_code) (hml : c.maxLocals = 8) (hown : s.vm.findClass "com/example/turnstile/turnstile/lab/Workers" = some m.cls) (cl : Cell) (Ar : Arr Z h0 o3 cl .long) (Sz : cl.slots.size = (Int32.ofNat n).toNatClampNeg) (hat : ∀ j, j < n → cl.slots[j]? = some (.long (f j))) :
    ∀ (k i : Nat) (S : Int64) (s6 s7 : Slot) (T0 : State), i + k = n → own_two s6 s7 → Stand p l e R s m args below meth c T0 locs cells slots → T0.heap = h0 →
      ∃ (T' : State) (s6' s7' : Slot), Stand p l e R s m args below meth c T' locs cells slots ∧ T'.heap = h0 ∧
        ∀ target, Steps p.tables e below (T'.setTop (mkF m 35 #[s0, .val (.long (own_acc f k i S)), .second, .val (.ref o3), .val (.int (Int32.ofNat n)), .val (.int (Int32.ofNat n)), s6', s7'] [])) target → Steps p.tables e below (T0.setTop (mkF m 11 #[s0, .val (.long S), .second, .val (.ref o3), .val (.int (Int32.ofNat n)), .val (.int (Int32.ofNat i)), s6, s7] [])) target := by
  intro k
  induction k with
  | zero =>
    intro i S s6 s7 T0 hi h67 X0 e0
    have hi' : i = n := by omega
    subst hi'
    obtain ⟨T1, X1, e1, st1⟩ := tn1_11_35 s0 (.val (.long S)) .second (.val (.ref o3)) (Int32.ofNat i) (Int32.ofNat i) s6 s7 X0 hx hZ hw hby hml hown e0 Int32.lt_irrefl
    exact ⟨T1, s6, s7, X1, e1, st1⟩
  | succ k ih =>
    intro i S s6 s7 T0 hi h67 X0 e0
    have hin : ¬ (Int32.ofNat i < 0 ∨ cl.slots.size ≤ (Int32.ofNat i).toNatClampNeg) := by
      rw [Sz, own_n32 hn, own_n32 (by omega)]
      exact fun q => q.elim (own_nn (by omega)) (fun q => by omega)
    have hai : cl.slots[(Int32.ofNat i).toNatClampNeg]? = some (.long (f i)) := by rw [own_n32 (by omega)]; exact hat i (by omega)
    obtain ⟨T1, X1, e1, st1⟩ := tn1_11_11 s0 S o3 (Int32.ofNat n) (Int32.ofNat i) s6 s7 (f i) cl X0 hx hZ hw hby hml hown e0 Ar hin hai (own_lt (by omega) hn) h67
    obtain ⟨T', s6', s7', X', e', st⟩ := ih (i + 1) (S + f i) (.val (.long (f i))) .second T1 (by omega) (Or.inr ⟨_, rfl, rfl⟩) X1 e1
    refine ⟨T', s6', s7', X', e', fun target h => st1 target ?_⟩
    rw [own_one]
    exact st target h
theorem d1_0 : decode prog_86_method_6_code 0 = .ok (.lconst 0, 1) := by decide +kernel
theorem d1_1 : decode prog_86_method_6_code 1 = .ok (.lstore_n 1, 1) := by decide +kernel
theorem d1_2 : decode prog_86_method_6_code 2 = .ok (.aload_n 0, 1) := by decide +kernel
theorem d1_3 : decode prog_86_method_6_code 3 = .ok (.astore_n 3, 1) := by decide +kernel
theorem d1_4 : decode prog_86_method_6_code 4 = .ok (.aload_n 3, 1) := by decide +kernel
theorem d1_5 : decode prog_86_method_6_code 5 = .ok (.arraylength, 1) := by decide +kernel
theorem d1_6 : decode prog_86_method_6_code 6 = .ok (.istore 4, 2) := by decide +kernel
theorem d1_8 : decode prog_86_method_6_code 8 = .ok (.iconst 0, 1) := by decide +kernel
theorem d1_9 : decode prog_86_method_6_code 9 = .ok (.istore 5, 2) := by decide +kernel
theorem d1_35 : decode prog_86_method_6_code 35 = .ok (.lload_n 1, 1) := by decide +kernel
theorem d1_36 : decode prog_86_method_6_code 36 = .ok (.lreturn, 1) := by decide +kernel
theorem pn_1 : plainName "com/example/turnstile/turnstile/lab/Workers" = true := by first | (simp [plainName, overriddenIn]; done) | decide +kernel
theorem ef_1 (m : MethodId) (x0 : Addr) : entryFrame m #[(.ref x0)] 8 = mkF m 0 #[.val (.ref x0), .unset, .unset, .unset, .unset, .unset, .unset, .unset] [] := by first | (simp [entryFrame, mkF, argsToLocals, Value.category]; done) | rfl
def Q1 (Z : State) (f : Nat → Int64) (n : Nat) (h0 : Heap) (n0 : Nat) (v : Option Value) (h : Heap) (L : List Loc) : Prop := v = some (.long (own_acc f n 0 (0 : Int64))) ∧ Fr n0 L ∧ h = h0
set_option maxRecDepth 65536 in
set_option maxHeartbeats 40000000 in
theorem rm1 (l : Launch) (Z : State) (a0 : Array Value) (hw : ∀ d ∈ tables_1, d.before a0 Z = true) (ws : List Jvm.Cond) (a1 : Addr) (vs : List Value) (ka : ClassId) (f : Nat → Int64) (n : Nat) (hn : n ≤ 255) (h0 : Heap) (n0 : Nat) (Z0 : n0 ≤ h0.size) (V_a1 : Arv Z h0 a1 ka .long (Int32.ofNat n) vs (.long (0 : Int64))) (hvs : ∀ j, j < n → vs.getD j (.long (0 : Int64)) = .long (f j)) :
    MetFree l (⟨"com/example/turnstile/turnstile/lab/Workers", "sum", "([J)J"⟩ : MethodName) (head1 (Jvm.Cond.code (⟨"com/example/turnstile/turnstile/lab/Workers", "sum", "([J)J"⟩ : MethodName) prog_86_method_6_code 8 (some .long) :: ws) ({ frames := 0, cells := 0, slots := 0, locals := 0 } : Room)) (fun a U => a = #[(.ref a1)] ∧ Z.Warmed39 U.vm ∧ U.heap = h0) (fun _ _ _ _ _ => True) (fun _ U o U' => ∃ v L, o = .returned v ∧ Q1 Z f n h0 n0 v U'.heap L ∧ FrameEnd U o U' L ({ frames := 0, cells := 0, slots := 0, locals := 0 } : Room).cells ({ frames := 0, cells := 0, slots := 0, locals := 0 } : Room).slots) := by
  refine MetFree.of_bodySF (plainFor_of_name pn_1) hisR ?_
  intro p e s m args below meth c s₁ Bd hml0 hP hK
  obtain ⟨rfl, hZ, hh⟩ := hP
  have hx := Bd.exec
  have hby := Bd.bytes
  have hml : c.maxLocals = 8 := hml0
  have hown : s.vm.findClass "com/example/turnstile/turnstile/lab/Workers" = some m.cls := findClass_of_methodNamed Bd.named
  have hnm := (name_of_methodNamed Bd.named Bd.method).1
  have X0 : Stand p l e ({ frames := 0, cells := 0, slots := 0, locals := 0 } : Room) s m #[(.ref a1)] below meth c s₁ [] 0 0 := Stand.of_body Bd
  have e0 : s₁.heap = h0 := by rw [← hh, Bd.state]; rfl
  have N0 := Fr.nil n0
  have pre0 : ∀ t, Steps p.tables e below (s₁.setTop (mkF m 0 #[.val (.ref a1), .unset, .unset, .unset, .unset, .unset, .unset, .unset] [])) t → Steps p.tables e below (s₁.setTop (entryFrame m #[(.ref a1)] 8)) t := fun t k => castTop (ef_1 m a1) k
  obtain ⟨cl_a1, Ar_a1, -, S_a1, N_a1, H_a1, -⟩ := V_a1
  have hat : ∀ j, j < n → cl_a1.slots[j]? = some (.long (f j)) := fun j hj => by rw [H_a1 j (by rw [S_a1, own_n32 hn]; exact hj), hvs j hj]
  obtain ⟨T2, s6', s7', X2, e2, st2⟩ := loop1 (.val (.ref a1)) a1 f n hn hx hZ hw hby hml hown cl_a1 Ar_a1 S_a1 hat n 0 (0 : Int64) .unset .unset s₁ (by omega) (Or.inl ⟨rfl, rfl⟩) X0 e0
  obtain ⟨fs, hr, hrun, hended, hW, hsame⟩ := X2.leave (v := some (.long (own_acc f n 0 (0 : Int64)))) (fun h => by rw [Bd.returns] at h; cases h)
  refine ⟨_, _, pre0 _ ?_, hrun, hended, _, _, rfl, ?_, ⟨_, rfl⟩, hW, hsame.mono (by decide) (by decide)⟩
  · show Steps p.tables e below (s₁.setTop (mkF m 0 #[.val (.ref a1), .unset, .unset, .unset, .unset, .unset, .unset, .unset] [])) _
    refine XS.lconst X0.here hx rfl (hb hby d1_0) ?_
    show Steps p.tables e below (s₁.setTop (mkF m 1 #[.val (.ref a1), .unset, .unset, .unset, .unset, .unset, .unset, .unset] [(.long (0 : Int64))])) _
    refine XS.lstoreN X0.here hx rfl (hb hby d1_1) rfl (l' := #[.val (.ref a1), .val (.long (0 : Int64)), .second, .unset, .unset, .unset, .unset, .unset]) rfl ?_
    show Steps p.tables e below (s₁.setTop (mkF m 2 #[.val (.ref a1), .val (.long (0 : Int64)), .second, .unset, .unset, .unset, .unset, .unset] [])) _
    refine XS.aloadN X0.here hx rfl (hb hby d1_2) rfl rfl ?_
    show Steps p.tables e below (s₁.setTop (mkF m 3 #[.val (.ref a1), .val (.long (0 : Int64)), .second, .unset, .unset, .unset, .unset, .unset] [(.ref a1)])) _
    refine XS.astoreN X0.here hx rfl (hb hby d1_3) rfl rfl (l' := #[.val (.ref a1), .val (.long (0 : Int64)), .second, .val (.ref a1), .unset, .unset, .unset, .unset]) rfl ?_
    show Steps p.tables e below (s₁.setTop (mkF m 4 #[.val (.ref a1), .val (.long (0 : Int64)), .second, .val (.ref a1), .unset, .unset, .unset, .unset] [])) _
    refine XS.aloadN X0.here hx rfl (hb hby d1_4) rfl rfl ?_
    show Steps p.tables e below (s₁.setTop (mkF m 5 #[.val (.ref a1), .val (.long (0 : Int64)), .second, .val (.ref a1), .unset, .unset, .unset, .unset] [(.ref a1)])) _
    refine X0.arraylength hx (cell := cl_a1) (by rw [e0]; exact Ar_a1.1) (State.isArrayOf_alike hZ.alike Ar_a1.2.1) (g := (mkF m 5 #[.val (.ref a1), .val (.long (0 : Int64)), .second, .val (.ref a1), .unset, .unset, .unset, .unset] [(.ref a1)])) rfl rfl (hb hby d1_5) _ ?_
    rw [len_of S_a1 N_a1]
    show Steps p.tables e below (s₁.setTop (mkF m 6 #[.val (.ref a1), .val (.long (0 : Int64)), .second, .val (.ref a1), .unset, .unset, .unset, .unset] [(.int (Int32.ofNat n))])) _
    refine XS.istore X0.here hx rfl (hb hby d1_6) rfl (l' := #[.val (.ref a1), .val (.long (0 : Int64)), .second, .val (.ref a1), .val (.int (Int32.ofNat n)), .unset, .unset, .unset]) rfl ?_
    show Steps p.tables e below (s₁.setTop (mkF m 8 #[.val (.ref a1), .val (.long (0 : Int64)), .second, .val (.ref a1), .val (.int (Int32.ofNat n)), .unset, .unset, .unset] [])) _
    refine XS.iconst X0.here hx rfl (hb hby d1_8) ?_
    show Steps p.tables e below (s₁.setTop (mkF m 9 #[.val (.ref a1), .val (.long (0 : Int64)), .second, .val (.ref a1), .val (.int (Int32.ofNat n)), .unset, .unset, .unset] [(.int (0 : Int32))])) _
    refine XS.istore X0.here hx rfl (hb hby d1_9) rfl (l' := #[.val (.ref a1), .val (.long (0 : Int64)), .second, .val (.ref a1), .val (.int (Int32.ofNat n)), .val (.int (0 : Int32)), .unset, .unset]) rfl ?_
    show Steps p.tables e below (s₁.setTop (mkF m 11 #[.val (.ref a1), .val (.long (0 : Int64)), .second, .val (.ref a1), .val (.int (Int32.ofNat n)), .val (.int (0 : Int32)), .unset, .unset] [])) _
    refine st2 _ ?_
    show Steps p.tables e below (T2.setTop (mkF m 35 #[.val (.ref a1), .val (.long (own_acc f n 0 (0 : Int64))), .second, .val (.ref a1), .val (.int (Int32.ofNat n)), .val (.int (Int32.ofNat n)), s6', s7'] [])) _
    refine XS.lloadN X2.here hx rfl (hb hby d1_35) rfl ?_
    show Steps p.tables e below (T2.setTop (mkF m 36 #[.val (.ref a1), .val (.long (own_acc f n 0 (0 : Int64))), .second, .val (.ref a1), .val (.int (Int32.ofNat n)), .val (.int (Int32.ofNat n)), s6', s7'] [(.long (own_acc f n 0 (0 : Int64)))])) _
    jvm_step X2.here [X2.here.top, hx, (hb hby d1_36), X2.method', Bd.returns, narrow]
    first | (intro acts; rw [hr _ acts rfl rfl rfl]) | rw [hr _ _ rfl rfl rfl]
    exact Steps.refl _
  · show Q1 Z f n h0 n0 _ T2.heap _
    rw [e2]
    exact ⟨rfl, N0, rfl⟩
theorem pn_0 : plainName "com/example/turnstile/turnstile/lab/WorkersSumPinLaw" = true := by first | (simp [plainName, overriddenIn]; done) | decide +kernel
theorem pd_0_0 : parseMethodDescriptor "([J)J" = some ⟨[(.array .long)], some .long⟩ := by decide +kernel
theorem ef_0 (m : MethodId) (x0 : Int32) (x1 : Int64) (x2 : Int64) (x3 : Int64) (x4 : Int64) : entryFrame m #[(.int x0), (.long x1), (.long x2), (.long x3), (.long x4)] maxLocals = mkF m 0 #[.val (.int x0), .val (.long x1), .second, .val (.long x2), .second, .val (.long x3), .second, .val (.long x4), .second, .unset, .unset, .unset, .unset, .unset, .unset, .unset] [] := by first | (simp [entryFrame, mkF, argsToLocals, Value.category, maxLocals]; done) | rfl
def Q0 (Z : State) (p1 : Int32) (q2 : Int64) (q3 : Int64) (q4 : Int64) (q5 : Int64) (h0 : Heap) (n0 : Nat) (v : Option Value) (h : Heap) (L : List Loc) : Prop := v = some (.int (1 : Int32)) ∧ Fr n0 L
set_option maxRecDepth 65536 in
set_option maxHeartbeats 40000000 in
theorem rm0_0 (l : Launch) (Z : State) (a0 : Array Value) (hw : ∀ d ∈ tables_1, d.before a0 Z = true) (ws : List Jvm.Cond) (p1 : Int32) (q2 : Int64) (q3 : Int64) (q4 : Int64) (q5 : Int64) (h0 : Heap) (n0 : Nat) (Z0 : n0 ≤ h0.size) (hk : ((p1 &&& (2147483647 : Int32)) % (5 : Int32)) = (0 : Int32)) (hc19 : ¬ ((0 : Int32) < (0 : Int32))) (hc36 : ¬ ((1 : Int32) < (0 : Int32))) (hc53 : ¬ ((2 : Int32) < (0 : Int32))) (hc72 : ¬ ((3 : Int32) < (0 : Int32))) (hc100 : ¬ ((0 : Int32) < (0 : Int32))) (hc118 : ¬ ((1 : Int32) < (0 : Int32))) (hc136 : ¬ ((2 : Int32) < (0 : Int32))) (hc155 : ¬ ((3 : Int32) < (0 : Int32))) (hc181 : ¬ ((1 : Int32) = (0 : Int32))) :
    MetFree l x (head1 (Jvm.Cond.code x code maxLocals ret :: ws) room_1) (fun a U => a = #[(.int p1), (.long q2), (.long q3), (.long q4), (.long q5)] ∧ Z.Warmed39 U.vm ∧ U.heap = h0) (fun _ _ _ _ _ => True) (fun _ U o U' => ∃ v L, o = .returned v ∧ Q0 Z p1 q2 q3 q4 q5 h0 n0 v U'.heap L ∧ FrameEnd U o U' L room_1.cells room_1.slots) := by
  refine MetFree.of_bodySF (plainFor_of_name pn_0) hisR ?_
  intro p e s m args below meth c s₁ Bd hml0 hP hK
  obtain ⟨rfl, hZ, hh⟩ := hP
  have hx := Bd.exec
  have hby := Bd.bytes
  have hml : c.maxLocals = 16 := hml0
  have hown : s.vm.findClass "com/example/turnstile/turnstile/lab/WorkersSumPinLaw" = some m.cls := findClass_of_methodNamed Bd.named
  have hnm := (name_of_methodNamed Bd.named Bd.method).1
  have X0 : Stand p l e room_1 s m #[(.int p1), (.long q2), (.long q3), (.long q4), (.long q5)] below meth c s₁ [] 0 0 := Stand.of_body Bd
  have e0 : s₁.heap = h0 := by rw [← hh, Bd.state]; rfl
  have N0 := Fr.nil n0
  have pre0 : ∀ t, Steps p.tables e below (s₁.setTop (mkF m 0 #[.val (.int p1), .val (.long q2), .second, .val (.long q3), .second, .val (.long q4), .second, .val (.long q5), .second, .unset, .unset, .unset, .unset, .unset, .unset, .unset] [])) t → Steps p.tables e below (s₁.setTop (entryFrame m #[(.int p1), (.long q2), (.long q3), (.long q4), (.long q5)] maxLocals)) t := fun t k => castTop (ef_0 m p1 q2 q3 q4 q5) k
  obtain ⟨T6, h6, k6, X6, e6, E6, A6, st6⟩ := newP X0 hx hZ (hw _ (List.mem_of_getElem? (i := 1) rfl)) e0 (g := (mkF m 10 #[.val (.int p1), .val (.long q2), .second, .val (.long q3), .second, .val (.long q4), .second, .val (.long q5), .second, .val (.int (0 : Int32)), .unset, .unset, .unset, .unset, .unset, .unset] [(.int (0 : Int32))])) rfl (hb hby at_10) rfl (by decide) (cap := 0) (by decide) (by decide) (by decide) (by decide)
  obtain ⟨b6, g6⟩ : ∃ z, z = h0.size := ⟨_, rfl⟩
  rw [← g6] at A6 st6
  have V_b6 := Arv.new A6 (by decide)
  have g_b6 : n0 ≤ b6 := Nat.le_trans Z0 (Nat.le_of_eq g6.symm)
  have sz_b6 : h0.size ≤ b6 := (Nat.le_trans (Keep.refl h0 []).1 (Nat.le_of_eq g6.symm))
  have K6 : Keep h0 h6 [] := (Keep.refl h0 []).ext E6
  obtain ⟨_, _, ⟨T7, L7, k7, n7⟩, -, X7, ⟨Lc7, hQ7, l7, y7, z7⟩, st7⟩ := Jvm.LawKit.callS X6 hx (y := (⟨"com/example/turnstile/turnstile/lab/Workers", "sum", "([J)J"⟩ : MethodName)) hown (mvT hZ (hw _ (List.mem_of_getElem? (i := 2) rfl))) (mvT hZ (hw _ (List.mem_of_getElem? (i := 3) rfl))) (mvT hZ (hw _ (List.mem_of_getElem? (i := 4) rfl))) (mvT hZ (hw _ (List.mem_of_getElem? (i := 5) rfl))) (by decide) (backOf (W := 0) (rm1 l Z a0 hw [] b6 _ k6 (fun j => [].getD j 0) 0 (by decide) h6 n0 (Nat.le_trans Z0 K6.1) V_b6 (fun j hj => absurd hj (Nat.not_lt_zero j))) hZ (hw _ (List.mem_of_getElem? (i := 5) rfl)) (hw _ (List.mem_of_getElem? (i := 4) rfl)) (by decide) (by decide)) (g := (mkF m 90 #[.val (.int p1), .val (.long q2), .second, .val (.long q3), .second, .val (.long q4), .second, .val (.long q5), .second, .val (.int (0 : Int32)), .val (.ref b6), .val (.long (0 : Int64)), .second, .unset, .unset, .unset] [(.ref b6)])) rfl (by rw [hml]; rfl) (argsL := [(.ref b6)]) (rest := []) (lenOf pd_0_0 rfl) rfl (by show 2 * 0 + _ ≤ _; exact Nat.le_of_eq rfl) (hb hby at_90) (fun _ _ => ⟨rfl, e6, (by decide : 1 + 0 ≤ _), (by decide : 0 + 0 ≤ _)⟩)
  dsimp only [Pt.U, Pt.locs, Pt.cells, Pt.slots] at X7 l7 y7 z7 st7 hQ7
  subst l7 y7 z7
  obtain ⟨rfl, N7q, eq7⟩ := hQ7
  have N7 := Fr.app N0 N7q
  have Zc7 : n0 ≤ T7.heap.size := by rw [eq7]; exact (Nat.le_trans Z0 K6.1)
  obtain ⟨fs, hr, hrun, hended, hW, hsame⟩ := X7.leave (v := some (.int (1 : Int32))) (fun h => by rw [Bd.returns] at h; cases h)
  refine ⟨_, _, pre0 _ ?_, hrun, hended, _, _, rfl, ?_, ⟨_, rfl⟩, hW, hsame.mono (by decide) (by decide)⟩
  · show Steps p.tables e below (s₁.setTop (mkF m 0 #[.val (.int p1), .val (.long q2), .second, .val (.long q3), .second, .val (.long q4), .second, .val (.long q5), .second, .unset, .unset, .unset, .unset, .unset, .unset, .unset] [])) _
    refine XS.iloadN X0.here hx rfl (hb hby at_0) rfl ?_
    show Steps p.tables e below (s₁.setTop (mkF m 1 #[.val (.int p1), .val (.long q2), .second, .val (.long q3), .second, .val (.long q4), .second, .val (.long q5), .second, .unset, .unset, .unset, .unset, .unset, .unset, .unset] [(.int p1)])) _
    refine X0.ldcInt hx hown (mvT hZ (hw _ (List.mem_of_getElem? (i := 0) rfl))) (g := (mkF m 1 #[.val (.int p1), .val (.long q2), .second, .val (.long q3), .second, .val (.long q4), .second, .val (.long q5), .second, .unset, .unset, .unset, .unset, .unset, .unset, .unset] [(.int p1)])) rfl (hb hby at_1) _ ?_
    show Steps p.tables e below (s₁.setTop (mkF m 3 #[.val (.int p1), .val (.long q2), .second, .val (.long q3), .second, .val (.long q4), .second, .val (.long q5), .second, .unset, .unset, .unset, .unset, .unset, .unset, .unset] [(.int (2147483647 : Int32)), (.int p1)])) _
    refine XS.iand X0.here hx rfl (hb hby at_3) rfl ?_
    show Steps p.tables e below (s₁.setTop (mkF m 4 #[.val (.int p1), .val (.long q2), .second, .val (.long q3), .second, .val (.long q4), .second, .val (.long q5), .second, .unset, .unset, .unset, .unset, .unset, .unset, .unset] [(.int (p1 &&& (2147483647 : Int32)))])) _
    refine XS.iconst X0.here hx rfl (hb hby at_4) ?_
    show Steps p.tables e below (s₁.setTop (mkF m 5 #[.val (.int p1), .val (.long q2), .second, .val (.long q3), .second, .val (.long q4), .second, .val (.long q5), .second, .unset, .unset, .unset, .unset, .unset, .unset, .unset] [(.int (5 : Int32)), (.int (p1 &&& (2147483647 : Int32)))])) _
    refine iremM X0 hx rfl (hb hby at_5) rfl (by decide) ?_
    show Steps p.tables e below (s₁.setTop (mkF m 6 #[.val (.int p1), .val (.long q2), .second, .val (.long q3), .second, .val (.long q4), .second, .val (.long q5), .second, .unset, .unset, .unset, .unset, .unset, .unset, .unset] [(.int ((p1 &&& (2147483647 : Int32)) % (5 : Int32)))])) _
    rw [hk]
    show Steps p.tables e below (s₁.setTop (mkF m 6 #[.val (.int p1), .val (.long q2), .second, .val (.long q3), .second, .val (.long q4), .second, .val (.long q5), .second, .unset, .unset, .unset, .unset, .unset, .unset, .unset] [(.int (0 : Int32))])) _
    refine XS.istore X0.here hx rfl (hb hby at_6) rfl (l' := #[.val (.int p1), .val (.long q2), .second, .val (.long q3), .second, .val (.long q4), .second, .val (.long q5), .second, .val (.int (0 : Int32)), .unset, .unset, .unset, .unset, .unset, .unset]) rfl ?_
    show Steps p.tables e below (s₁.setTop (mkF m 8 #[.val (.int p1), .val (.long q2), .second, .val (.long q3), .second, .val (.long q4), .second, .val (.long q5), .second, .val (.int (0 : Int32)), .unset, .unset, .unset, .unset, .unset, .unset] [])) _
    refine XS.iload X0.here hx rfl (hb hby at_8) rfl ?_
    show Steps p.tables e below (s₁.setTop (mkF m 10 #[.val (.int p1), .val (.long q2), .second, .val (.long q3), .second, .val (.long q4), .second, .val (.long q5), .second, .val (.int (0 : Int32)), .unset, .unset, .unset, .unset, .unset, .unset] [(.int (0 : Int32))])) _
    refine st6 _ ?_
    show Steps p.tables e below (T6.setTop (mkF m 12 #[.val (.int p1), .val (.long q2), .second, .val (.long q3), .second, .val (.long q4), .second, .val (.long q5), .second, .val (.int (0 : Int32)), .unset, .unset, .unset, .unset, .unset, .unset] [(.ref b6)])) _
    refine XS.astore X6.here hx rfl (hb hby at_12) rfl rfl (l' := #[.val (.int p1), .val (.long q2), .second, .val (.long q3), .second, .val (.long q4), .second, .val (.long q5), .second, .val (.int (0 : Int32)), .val (.ref b6), .unset, .unset, .unset, .unset, .unset]) rfl ?_
    show Steps p.tables e below (T6.setTop (mkF m 14 #[.val (.int p1), .val (.long q2), .second, .val (.long q3), .second, .val (.long q4), .second, .val (.long q5), .second, .val (.int (0 : Int32)), .val (.ref b6), .unset, .unset, .unset, .unset, .unset] [])) _
    refine XS.lconst X6.here hx rfl (hb hby at_14) ?_
    show Steps p.tables e below (T6.setTop (mkF m 15 #[.val (.int p1), .val (.long q2), .second, .val (.long q3), .second, .val (.long q4), .second, .val (.long q5), .second, .val (.int (0 : Int32)), .val (.ref b6), .unset, .unset, .unset, .unset, .unset] [(.long (0 : Int64))])) _
    refine XS.lstore X6.here hx rfl (hb hby at_15) rfl (l' := #[.val (.int p1), .val (.long q2), .second, .val (.long q3), .second, .val (.long q4), .second, .val (.long q5), .second, .val (.int (0 : Int32)), .val (.ref b6), .val (.long (0 : Int64)), .second, .unset, .unset, .unset]) rfl ?_
    show Steps p.tables e below (T6.setTop (mkF m 17 #[.val (.int p1), .val (.long q2), .second, .val (.long q3), .second, .val (.long q4), .second, .val (.long q5), .second, .val (.int (0 : Int32)), .val (.ref b6), .val (.long (0 : Int64)), .second, .unset, .unset, .unset] [])) _
    refine XS.iload X6.here hx rfl (hb hby at_17) rfl ?_
    show Steps p.tables e below (T6.setTop (mkF m 19 #[.val (.int p1), .val (.long q2), .second, .val (.long q3), .second, .val (.long q4), .second, .val (.long q5), .second, .val (.int (0 : Int32)), .val (.ref b6), .val (.long (0 : Int64)), .second, .unset, .unset, .unset] [(.int (0 : Int32))])) _
    refine XS.ifYes X6.here hx rfl (pc0 := 19) (pc' := 33) rfl (hb hby at_19) rfl ((if0 _ _).trans (flt hc19).2.2.2) (by decide) (by decide) ?_
    show Steps p.tables e below (T6.setTop (mkF m 33 #[.val (.int p1), .val (.long q2), .second, .val (.long q3), .second, .val (.long q4), .second, .val (.long q5), .second, .val (.int (0 : Int32)), .val (.ref b6), .val (.long (0 : Int64)), .second, .unset, .unset, .unset] [])) _
    refine XS.iload X6.here hx rfl (hb hby at_33) rfl ?_
    show Steps p.tables e below (T6.setTop (mkF m 35 #[.val (.int p1), .val (.long q2), .second, .val (.long q3), .second, .val (.long q4), .second, .val (.long q5), .second, .val (.int (0 : Int32)), .val (.ref b6), .val (.long (0 : Int64)), .second, .unset, .unset, .unset] [(.int (0 : Int32))])) _
    refine XS.iconst X6.here hx rfl (hb hby at_35) ?_
    show Steps p.tables e below (T6.setTop (mkF m 36 #[.val (.int p1), .val (.long q2), .second, .val (.long q3), .second, .val (.long q4), .second, .val (.long q5), .second, .val (.int (0 : Int32)), .val (.ref b6), .val (.long (0 : Int64)), .second, .unset, .unset, .unset] [(.int (1 : Int32)), (.int (0 : Int32))])) _
    refine XS.icmpYes X6.here hx rfl (pc0 := 36) (pc' := 50) rfl (hb hby at_36) rfl (flt hc36).2.2.2 (by decide) (by decide) ?_
    show Steps p.tables e below (T6.setTop (mkF m 50 #[.val (.int p1), .val (.long q2), .second, .val (.long q3), .second, .val (.long q4), .second, .val (.long q5), .second, .val (.int (0 : Int32)), .val (.ref b6), .val (.long (0 : Int64)), .second, .unset, .unset, .unset] [])) _
    refine XS.iload X6.here hx rfl (hb hby at_50) rfl ?_
    show Steps p.tables e below (T6.setTop (mkF m 52 #[.val (.int p1), .val (.long q2), .second, .val (.long q3), .second, .val (.long q4), .second, .val (.long q5), .second, .val (.int (0 : Int32)), .val (.ref b6), .val (.long (0 : Int64)), .second, .unset, .unset, .unset] [(.int (0 : Int32))])) _
    refine XS.iconst X6.here hx rfl (hb hby at_52) ?_
    show Steps p.tables e below (T6.setTop (mkF m 53 #[.val (.int p1), .val (.long q2), .second, .val (.long q3), .second, .val (.long q4), .second, .val (.long q5), .second, .val (.int (0 : Int32)), .val (.ref b6), .val (.long (0 : Int64)), .second, .unset, .unset, .unset] [(.int (2 : Int32)), (.int (0 : Int32))])) _
    refine XS.icmpYes X6.here hx rfl (pc0 := 53) (pc' := 69) rfl (hb hby at_53) rfl (flt hc53).2.2.2 (by decide) (by decide) ?_
    show Steps p.tables e below (T6.setTop (mkF m 69 #[.val (.int p1), .val (.long q2), .second, .val (.long q3), .second, .val (.long q4), .second, .val (.long q5), .second, .val (.int (0 : Int32)), .val (.ref b6), .val (.long (0 : Int64)), .second, .unset, .unset, .unset] [])) _
    refine XS.iload X6.here hx rfl (hb hby at_69) rfl ?_
    show Steps p.tables e below (T6.setTop (mkF m 71 #[.val (.int p1), .val (.long q2), .second, .val (.long q3), .second, .val (.long q4), .second, .val (.long q5), .second, .val (.int (0 : Int32)), .val (.ref b6), .val (.long (0 : Int64)), .second, .unset, .unset, .unset] [(.int (0 : Int32))])) _
    refine XS.iconst X6.here hx rfl (hb hby at_71) ?_
    show Steps p.tables e below (T6.setTop (mkF m 72 #[.val (.int p1), .val (.long q2), .second, .val (.long q3), .second, .val (.long q4), .second, .val (.long q5), .second, .val (.int (0 : Int32)), .val (.ref b6), .val (.long (0 : Int64)), .second, .unset, .unset, .unset] [(.int (3 : Int32)), (.int (0 : Int32))])) _
    refine XS.icmpYes X6.here hx rfl (pc0 := 72) (pc' := 88) rfl (hb hby at_72) rfl (flt hc72).2.2.2 (by decide) (by decide) ?_
    show Steps p.tables e below (T6.setTop (mkF m 88 #[.val (.int p1), .val (.long q2), .second, .val (.long q3), .second, .val (.long q4), .second, .val (.long q5), .second, .val (.int (0 : Int32)), .val (.ref b6), .val (.long (0 : Int64)), .second, .unset, .unset, .unset] [])) _
    refine XS.aload X6.here hx rfl (hb hby at_88) rfl rfl ?_
    show Steps p.tables e below (T6.setTop (mkF m 90 #[.val (.int p1), .val (.long q2), .second, .val (.long q3), .second, .val (.long q4), .second, .val (.long q5), .second, .val (.int (0 : Int32)), .val (.ref b6), .val (.long (0 : Int64)), .second, .unset, .unset, .unset] [(.ref b6)])) _
    refine st7 _ ?_
    show Steps p.tables e below (T7.setTop (mkF m 93 #[.val (.int p1), .val (.long q2), .second, .val (.long q3), .second, .val (.long q4), .second, .val (.long q5), .second, .val (.int (0 : Int32)), .val (.ref b6), .val (.long (0 : Int64)), .second, .unset, .unset, .unset] [(.long (0 : Int64))])) _
    refine XS.lstore X7.here hx rfl (hb hby at_93) rfl (l' := #[.val (.int p1), .val (.long q2), .second, .val (.long q3), .second, .val (.long q4), .second, .val (.long q5), .second, .val (.int (0 : Int32)), .val (.ref b6), .val (.long (0 : Int64)), .second, .val (.long (0 : Int64)), .second, .unset]) rfl ?_
    show Steps p.tables e below (T7.setTop (mkF m 95 #[.val (.int p1), .val (.long q2), .second, .val (.long q3), .second, .val (.long q4), .second, .val (.long q5), .second, .val (.int (0 : Int32)), .val (.ref b6), .val (.long (0 : Int64)), .second, .val (.long (0 : Int64)), .second, .unset] [])) _
    refine XS.iconst X7.here hx rfl (hb hby at_95) ?_
    show Steps p.tables e below (T7.setTop (mkF m 96 #[.val (.int p1), .val (.long q2), .second, .val (.long q3), .second, .val (.long q4), .second, .val (.long q5), .second, .val (.int (0 : Int32)), .val (.ref b6), .val (.long (0 : Int64)), .second, .val (.long (0 : Int64)), .second, .unset] [(.int (1 : Int32))])) _
    refine XS.istore X7.here hx rfl (hb hby at_96) rfl (l' := #[.val (.int p1), .val (.long q2), .second, .val (.long q3), .second, .val (.long q4), .second, .val (.long q5), .second, .val (.int (0 : Int32)), .val (.ref b6), .val (.long (0 : Int64)), .second, .val (.long (0 : Int64)), .second, .val (.int (1 : Int32))]) rfl ?_
    show Steps p.tables e below (T7.setTop (mkF m 98 #[.val (.int p1), .val (.long q2), .second, .val (.long q3), .second, .val (.long q4), .second, .val (.long q5), .second, .val (.int (0 : Int32)), .val (.ref b6), .val (.long (0 : Int64)), .second, .val (.long (0 : Int64)), .second, .val (.int (1 : Int32))] [])) _
    refine XS.iload X7.here hx rfl (hb hby at_98) rfl ?_
    show Steps p.tables e below (T7.setTop (mkF m 100 #[.val (.int p1), .val (.long q2), .second, .val (.long q3), .second, .val (.long q4), .second, .val (.long q5), .second, .val (.int (0 : Int32)), .val (.ref b6), .val (.long (0 : Int64)), .second, .val (.long (0 : Int64)), .second, .val (.int (1 : Int32))] [(.int (0 : Int32))])) _
    refine XS.ifYes X7.here hx rfl (pc0 := 100) (pc' := 115) rfl (hb hby at_100) rfl ((if0 _ _).trans (flt hc100).2.2.2) (by decide) (by decide) ?_
    show Steps p.tables e below (T7.setTop (mkF m 115 #[.val (.int p1), .val (.long q2), .second, .val (.long q3), .second, .val (.long q4), .second, .val (.long q5), .second, .val (.int (0 : Int32)), .val (.ref b6), .val (.long (0 : Int64)), .second, .val (.long (0 : Int64)), .second, .val (.int (1 : Int32))] [])) _
    refine XS.iload X7.here hx rfl (hb hby at_115) rfl ?_
    show Steps p.tables e below (T7.setTop (mkF m 117 #[.val (.int p1), .val (.long q2), .second, .val (.long q3), .second, .val (.long q4), .second, .val (.long q5), .second, .val (.int (0 : Int32)), .val (.ref b6), .val (.long (0 : Int64)), .second, .val (.long (0 : Int64)), .second, .val (.int (1 : Int32))] [(.int (0 : Int32))])) _
    refine XS.iconst X7.here hx rfl (hb hby at_117) ?_
    show Steps p.tables e below (T7.setTop (mkF m 118 #[.val (.int p1), .val (.long q2), .second, .val (.long q3), .second, .val (.long q4), .second, .val (.long q5), .second, .val (.int (0 : Int32)), .val (.ref b6), .val (.long (0 : Int64)), .second, .val (.long (0 : Int64)), .second, .val (.int (1 : Int32))] [(.int (1 : Int32)), (.int (0 : Int32))])) _
    refine XS.icmpYes X7.here hx rfl (pc0 := 118) (pc' := 133) rfl (hb hby at_118) rfl (flt hc118).2.2.2 (by decide) (by decide) ?_
    show Steps p.tables e below (T7.setTop (mkF m 133 #[.val (.int p1), .val (.long q2), .second, .val (.long q3), .second, .val (.long q4), .second, .val (.long q5), .second, .val (.int (0 : Int32)), .val (.ref b6), .val (.long (0 : Int64)), .second, .val (.long (0 : Int64)), .second, .val (.int (1 : Int32))] [])) _
    refine XS.iload X7.here hx rfl (hb hby at_133) rfl ?_
    show Steps p.tables e below (T7.setTop (mkF m 135 #[.val (.int p1), .val (.long q2), .second, .val (.long q3), .second, .val (.long q4), .second, .val (.long q5), .second, .val (.int (0 : Int32)), .val (.ref b6), .val (.long (0 : Int64)), .second, .val (.long (0 : Int64)), .second, .val (.int (1 : Int32))] [(.int (0 : Int32))])) _
    refine XS.iconst X7.here hx rfl (hb hby at_135) ?_
    show Steps p.tables e below (T7.setTop (mkF m 136 #[.val (.int p1), .val (.long q2), .second, .val (.long q3), .second, .val (.long q4), .second, .val (.long q5), .second, .val (.int (0 : Int32)), .val (.ref b6), .val (.long (0 : Int64)), .second, .val (.long (0 : Int64)), .second, .val (.int (1 : Int32))] [(.int (2 : Int32)), (.int (0 : Int32))])) _
    refine XS.icmpYes X7.here hx rfl (pc0 := 136) (pc' := 152) rfl (hb hby at_136) rfl (flt hc136).2.2.2 (by decide) (by decide) ?_
    show Steps p.tables e below (T7.setTop (mkF m 152 #[.val (.int p1), .val (.long q2), .second, .val (.long q3), .second, .val (.long q4), .second, .val (.long q5), .second, .val (.int (0 : Int32)), .val (.ref b6), .val (.long (0 : Int64)), .second, .val (.long (0 : Int64)), .second, .val (.int (1 : Int32))] [])) _
    refine XS.iload X7.here hx rfl (hb hby at_152) rfl ?_
    show Steps p.tables e below (T7.setTop (mkF m 154 #[.val (.int p1), .val (.long q2), .second, .val (.long q3), .second, .val (.long q4), .second, .val (.long q5), .second, .val (.int (0 : Int32)), .val (.ref b6), .val (.long (0 : Int64)), .second, .val (.long (0 : Int64)), .second, .val (.int (1 : Int32))] [(.int (0 : Int32))])) _
    refine XS.iconst X7.here hx rfl (hb hby at_154) ?_
    show Steps p.tables e below (T7.setTop (mkF m 155 #[.val (.int p1), .val (.long q2), .second, .val (.long q3), .second, .val (.long q4), .second, .val (.long q5), .second, .val (.int (0 : Int32)), .val (.ref b6), .val (.long (0 : Int64)), .second, .val (.long (0 : Int64)), .second, .val (.int (1 : Int32))] [(.int (3 : Int32)), (.int (0 : Int32))])) _
    refine XS.icmpYes X7.here hx rfl (pc0 := 155) (pc' := 171) rfl (hb hby at_155) rfl (flt hc155).2.2.2 (by decide) (by decide) ?_
    show Steps p.tables e below (T7.setTop (mkF m 171 #[.val (.int p1), .val (.long q2), .second, .val (.long q3), .second, .val (.long q4), .second, .val (.long q5), .second, .val (.int (0 : Int32)), .val (.ref b6), .val (.long (0 : Int64)), .second, .val (.long (0 : Int64)), .second, .val (.int (1 : Int32))] [])) _
    refine XS.lload X7.here hx rfl (hb hby at_171) rfl ?_
    show Steps p.tables e below (T7.setTop (mkF m 173 #[.val (.int p1), .val (.long q2), .second, .val (.long q3), .second, .val (.long q4), .second, .val (.long q5), .second, .val (.int (0 : Int32)), .val (.ref b6), .val (.long (0 : Int64)), .second, .val (.long (0 : Int64)), .second, .val (.int (1 : Int32))] [(.long (0 : Int64))])) _
    refine XS.lload X7.here hx rfl (hb hby at_173) rfl ?_
    show Steps p.tables e below (T7.setTop (mkF m 175 #[.val (.int p1), .val (.long q2), .second, .val (.long q3), .second, .val (.long q4), .second, .val (.long q5), .second, .val (.int (0 : Int32)), .val (.ref b6), .val (.long (0 : Int64)), .second, .val (.long (0 : Int64)), .second, .val (.int (1 : Int32))] [(.long (0 : Int64)), (.long (0 : Int64))])) _
    refine XS.lcmp X7.here hx rfl (hb hby at_175) rfl ?_
    show Steps p.tables e below (T7.setTop (mkF m 176 #[.val (.int p1), .val (.long q2), .second, .val (.long q3), .second, .val (.long q4), .second, .val (.long q5), .second, .val (.int (0 : Int32)), .val (.ref b6), .val (.long (0 : Int64)), .second, .val (.long (0 : Int64)), .second, .val (.int (1 : Int32))] [(.int (lcmpW (0 : Int64) (0 : Int64)))])) _
    refine XS.ifNo X7.here hx rfl (hb hby at_176) rfl ((if0 _ _).trans (teq ((lw_eq _ _).2 rfl : (lcmpW (0 : Int64) (0 : Int64)) = (0 : Int32))).2) ?_
    show Steps p.tables e below (T7.setTop (mkF m 179 #[.val (.int p1), .val (.long q2), .second, .val (.long q3), .second, .val (.long q4), .second, .val (.long q5), .second, .val (.int (0 : Int32)), .val (.ref b6), .val (.long (0 : Int64)), .second, .val (.long (0 : Int64)), .second, .val (.int (1 : Int32))] [])) _
    refine XS.iload X7.here hx rfl (hb hby at_179) rfl ?_
    show Steps p.tables e below (T7.setTop (mkF m 181 #[.val (.int p1), .val (.long q2), .second, .val (.long q3), .second, .val (.long q4), .second, .val (.long q5), .second, .val (.int (0 : Int32)), .val (.ref b6), .val (.long (0 : Int64)), .second, .val (.long (0 : Int64)), .second, .val (.int (1 : Int32))] [(.int (1 : Int32))])) _
    refine XS.ifNo X7.here hx rfl (hb hby at_181) rfl ((if0 _ _).trans (feq hc181).1) ?_
    show Steps p.tables e below (T7.setTop (mkF m 184 #[.val (.int p1), .val (.long q2), .second, .val (.long q3), .second, .val (.long q4), .second, .val (.long q5), .second, .val (.int (0 : Int32)), .val (.ref b6), .val (.long (0 : Int64)), .second, .val (.long (0 : Int64)), .second, .val (.int (1 : Int32))] [])) _
    refine XS.iconst X7.here hx rfl (hb hby at_184) ?_
    show Steps p.tables e below (T7.setTop (mkF m 185 #[.val (.int p1), .val (.long q2), .second, .val (.long q3), .second, .val (.long q4), .second, .val (.long q5), .second, .val (.int (0 : Int32)), .val (.ref b6), .val (.long (0 : Int64)), .second, .val (.long (0 : Int64)), .second, .val (.int (1 : Int32))] [(.int (1 : Int32))])) _
    refine XS.goto X7.here hx rfl (pc0 := 185) (pc' := 189) rfl (hb hby at_185) (by decide) (by decide) ?_
    show Steps p.tables e below (T7.setTop (mkF m 189 #[.val (.int p1), .val (.long q2), .second, .val (.long q3), .second, .val (.long q4), .second, .val (.long q5), .second, .val (.int (0 : Int32)), .val (.ref b6), .val (.long (0 : Int64)), .second, .val (.long (0 : Int64)), .second, .val (.int (1 : Int32))] [(.int (1 : Int32))])) _
    exact retN X7 hx (t := .boolean) Bd.returns (by simp) (hb hby at_189) hr
  · show Q0 Z p1 q2 q3 q4 q5 h0 n0 _ T7.heap _
    exact ⟨rfl, N7⟩
set_option maxRecDepth 65536 in
set_option maxHeartbeats 40000000 in
theorem rm0_1 (l : Launch) (Z : State) (a0 : Array Value) (hw : ∀ d ∈ tables_1, d.before a0 Z = true) (ws : List Jvm.Cond) (p1 : Int32) (q2 : Int64) (q3 : Int64) (q4 : Int64) (q5 : Int64) (h0 : Heap) (n0 : Nat) (Z0 : n0 ≤ h0.size) (hk : ((p1 &&& (2147483647 : Int32)) % (5 : Int32)) = (1 : Int32)) (hc19 : (0 : Int32) < (1 : Int32)) (hc36 : ¬ ((1 : Int32) < (1 : Int32))) (hc53 : ¬ ((2 : Int32) < (1 : Int32))) (hc72 : ¬ ((3 : Int32) < (1 : Int32))) (hc100 : (0 : Int32) < (1 : Int32)) (hc109 : (lcmpW q2 q2) = (0 : Int32)) (hc118 : ¬ ((1 : Int32) < (1 : Int32))) (hc136 : ¬ ((2 : Int32) < (1 : Int32))) (hc155 : ¬ ((3 : Int32) < (1 : Int32))) (hc181 : ¬ ((1 : Int32) = (0 : Int32))) :
    MetFree l x (head1 (Jvm.Cond.code x code maxLocals ret :: ws) room_1) (fun a U => a = #[(.int p1), (.long q2), (.long q3), (.long q4), (.long q5)] ∧ Z.Warmed39 U.vm ∧ U.heap = h0) (fun _ _ _ _ _ => True) (fun _ U o U' => ∃ v L, o = .returned v ∧ Q0 Z p1 q2 q3 q4 q5 h0 n0 v U'.heap L ∧ FrameEnd U o U' L room_1.cells room_1.slots) := by
  refine MetFree.of_bodySF (plainFor_of_name pn_0) hisR ?_
  intro p e s m args below meth c s₁ Bd hml0 hP hK
  obtain ⟨rfl, hZ, hh⟩ := hP
  have hx := Bd.exec
  have hby := Bd.bytes
  have hml : c.maxLocals = 16 := hml0
  have hown : s.vm.findClass "com/example/turnstile/turnstile/lab/WorkersSumPinLaw" = some m.cls := findClass_of_methodNamed Bd.named
  have hnm := (name_of_methodNamed Bd.named Bd.method).1
  have X0 : Stand p l e room_1 s m #[(.int p1), (.long q2), (.long q3), (.long q4), (.long q5)] below meth c s₁ [] 0 0 := Stand.of_body Bd
  have e0 : s₁.heap = h0 := by rw [← hh, Bd.state]; rfl
  have N0 := Fr.nil n0
  have pre0 : ∀ t, Steps p.tables e below (s₁.setTop (mkF m 0 #[.val (.int p1), .val (.long q2), .second, .val (.long q3), .second, .val (.long q4), .second, .val (.long q5), .second, .unset, .unset, .unset, .unset, .unset, .unset, .unset] [])) t → Steps p.tables e below (s₁.setTop (entryFrame m #[(.int p1), (.long q2), (.long q3), (.long q4), (.long q5)] maxLocals)) t := fun t k => castTop (ef_0 m p1 q2 q3 q4 q5) k
  obtain ⟨T6, h6, k6, X6, e6, E6, A6, st6⟩ := newP X0 hx hZ (hw _ (List.mem_of_getElem? (i := 1) rfl)) e0 (g := (mkF m 10 #[.val (.int p1), .val (.long q2), .second, .val (.long q3), .second, .val (.long q4), .second, .val (.long q5), .second, .val (.int (1 : Int32)), .unset, .unset, .unset, .unset, .unset, .unset] [(.int (1 : Int32))])) rfl (hb hby at_10) rfl (by decide) (cap := 1) (by decide) (by decide) (by decide) (by decide)
  obtain ⟨b6, g6⟩ : ∃ z, z = h0.size := ⟨_, rfl⟩
  rw [← g6] at A6 st6
  have V_b6 : Arv Z h6 b6 k6 .long (1 : Int32) [(.long (0 : Int64))] (.long (0 : Int64)) := (Arv.new A6 (by decide)).pad (pad_rep [] (.long (0 : Int64)) 1)
  have g_b6 : n0 ≤ b6 := Nat.le_trans Z0 (Nat.le_of_eq g6.symm)
  have sz_b6 : h0.size ≤ b6 := (Nat.le_trans (Keep.refl h0 []).1 (Nat.le_of_eq g6.symm))
  have K6 : Keep h0 h6 [] := (Keep.refl h0 []).ext E6
  obtain ⟨cl_b6_26, Ar_b6, q_b6, S_b6, N_b6, H_b6, G_b6⟩ := V_b6
  have hin26 : ¬ ((0 : Int32) < 0 ∨ cl_b6_26.slots.size ≤ ((0 : Int32)).toNatClampNeg) := inb_of S_b6 ⟨by decide, by decide⟩
  obtain ⟨T7, h7, X7, e7, W7, st7⟩ := stJ X6 hx hZ e6 Ar_b6 (j := (0 : Int32)) hin26 (g := (mkF m 26 #[.val (.int p1), .val (.long q2), .second, .val (.long q3), .second, .val (.long q4), .second, .val (.long q5), .second, .val (.int (1 : Int32)), .val (.ref b6), .val (.long (0 : Int64)), .second, .unset, .unset, .unset] [(.long q2), (.int (0 : Int32)), (.ref b6)])) rfl rfl (hb hby at_26)
  have V_b6_7 := Arv.set Ar_b6 q_b6 S_b6 N_b6 H_b6 G_b6 rfl W7 0 rfl (Nat.le_of_ble_eq_true rfl)
  have K7 : Keep h0 h7 [] := K6.wr W7 (Or.inr sz_b6)
  have N7 := Fr.snoc X7 N0 g_b6
  obtain ⟨_, _, ⟨T8, L8, k8, n8⟩, -, X8, ⟨Lc8, hQ8, l8, y8, z8⟩, st8⟩ := Jvm.LawKit.callS X7 hx (y := (⟨"com/example/turnstile/turnstile/lab/Workers", "sum", "([J)J"⟩ : MethodName)) hown (mvT hZ (hw _ (List.mem_of_getElem? (i := 2) rfl))) (mvT hZ (hw _ (List.mem_of_getElem? (i := 3) rfl))) (mvT hZ (hw _ (List.mem_of_getElem? (i := 4) rfl))) (mvT hZ (hw _ (List.mem_of_getElem? (i := 5) rfl))) (by decide) (backOf (W := 0) (rm1 l Z a0 hw [] b6 _ k6 (fun j => [q2].getD j 0) 1 (by decide) h7 n0 (Nat.le_trans Z0 K7.1) V_b6_7 (fun j hj => match j, hj with | 0, _ => rfl)) hZ (hw _ (List.mem_of_getElem? (i := 5) rfl)) (hw _ (List.mem_of_getElem? (i := 4) rfl)) (by decide) (by decide)) (g := (mkF m 90 #[.val (.int p1), .val (.long q2), .second, .val (.long q3), .second, .val (.long q4), .second, .val (.long q5), .second, .val (.int (1 : Int32)), .val (.ref b6), .val (.long ((0 : Int64) + q2)), .second, .unset, .unset, .unset] [(.ref b6)])) rfl (by rw [hml]; rfl) (argsL := [(.ref b6)]) (rest := []) (lenOf pd_0_0 rfl) rfl (by show 2 * 0 + _ ≤ _; exact Nat.le_of_eq rfl) (hb hby at_90) (fun _ _ => ⟨rfl, e7, (by decide : 1 + 0 ≤ _), (by decide : 1 + 0 ≤ _)⟩)
  dsimp only [Pt.U, Pt.locs, Pt.cells, Pt.slots] at X8 l8 y8 z8 st8 hQ8
  subst l8 y8 z8
  obtain ⟨rfl, N8q, eq8⟩ := hQ8
  have N8 := Fr.app N7 N8q
  have Zc8 : n0 ≤ T8.heap.size := by rw [eq8]; exact (Nat.le_trans Z0 K7.1)
  obtain ⟨clB, ArB, -, SzB, NnB, HhB, -⟩ := V_b6_7
  have Ar_b6 : Arr Z T8.heap b6 clB .long := by rw [eq8]; exact ArB
  have hin106 : ¬ ((0 : Int32) < 0 ∨ clB.slots.size ≤ ((0 : Int32)).toNatClampNeg) := inb_of SzB ⟨by decide, by decide⟩
  have hat106 : clB.slots[((0 : Int32)).toNatClampNeg]? = some (.long q2) := by rw [show ((0 : Int32)).toNatClampNeg = 0 from by decide]; exact HhB 0 (by rw [SzB]; decide)
  obtain ⟨fs, hr, hrun, hended, hW, hsame⟩ := X8.leave (v := some (.int (1 : Int32))) (fun h => by rw [Bd.returns] at h; cases h)
  refine ⟨_, _, pre0 _ ?_, hrun, hended, _, _, rfl, ?_, ⟨_, rfl⟩, hW, hsame.mono (by decide) (by decide)⟩
  · show Steps p.tables e below (s₁.setTop (mkF m 0 #[.val (.int p1), .val (.long q2), .second, .val (.long q3), .second, .val (.long q4), .second, .val (.long q5), .second, .unset, .unset, .unset, .unset, .unset, .unset, .unset] [])) _
    refine XS.iloadN X0.here hx rfl (hb hby at_0) rfl ?_
    show Steps p.tables e below (s₁.setTop (mkF m 1 #[.val (.int p1), .val (.long q2), .second, .val (.long q3), .second, .val (.long q4), .second, .val (.long q5), .second, .unset, .unset, .unset, .unset, .unset, .unset, .unset] [(.int p1)])) _
    refine X0.ldcInt hx hown (mvT hZ (hw _ (List.mem_of_getElem? (i := 0) rfl))) (g := (mkF m 1 #[.val (.int p1), .val (.long q2), .second, .val (.long q3), .second, .val (.long q4), .second, .val (.long q5), .second, .unset, .unset, .unset, .unset, .unset, .unset, .unset] [(.int p1)])) rfl (hb hby at_1) _ ?_
    show Steps p.tables e below (s₁.setTop (mkF m 3 #[.val (.int p1), .val (.long q2), .second, .val (.long q3), .second, .val (.long q4), .second, .val (.long q5), .second, .unset, .unset, .unset, .unset, .unset, .unset, .unset] [(.int (2147483647 : Int32)), (.int p1)])) _
    refine XS.iand X0.here hx rfl (hb hby at_3) rfl ?_
    show Steps p.tables e below (s₁.setTop (mkF m 4 #[.val (.int p1), .val (.long q2), .second, .val (.long q3), .second, .val (.long q4), .second, .val (.long q5), .second, .unset, .unset, .unset, .unset, .unset, .unset, .unset] [(.int (p1 &&& (2147483647 : Int32)))])) _
    refine XS.iconst X0.here hx rfl (hb hby at_4) ?_
    show Steps p.tables e below (s₁.setTop (mkF m 5 #[.val (.int p1), .val (.long q2), .second, .val (.long q3), .second, .val (.long q4), .second, .val (.long q5), .second, .unset, .unset, .unset, .unset, .unset, .unset, .unset] [(.int (5 : Int32)), (.int (p1 &&& (2147483647 : Int32)))])) _
    refine iremM X0 hx rfl (hb hby at_5) rfl (by decide) ?_
    show Steps p.tables e below (s₁.setTop (mkF m 6 #[.val (.int p1), .val (.long q2), .second, .val (.long q3), .second, .val (.long q4), .second, .val (.long q5), .second, .unset, .unset, .unset, .unset, .unset, .unset, .unset] [(.int ((p1 &&& (2147483647 : Int32)) % (5 : Int32)))])) _
    rw [hk]
    show Steps p.tables e below (s₁.setTop (mkF m 6 #[.val (.int p1), .val (.long q2), .second, .val (.long q3), .second, .val (.long q4), .second, .val (.long q5), .second, .unset, .unset, .unset, .unset, .unset, .unset, .unset] [(.int (1 : Int32))])) _
    refine XS.istore X0.here hx rfl (hb hby at_6) rfl (l' := #[.val (.int p1), .val (.long q2), .second, .val (.long q3), .second, .val (.long q4), .second, .val (.long q5), .second, .val (.int (1 : Int32)), .unset, .unset, .unset, .unset, .unset, .unset]) rfl ?_
    show Steps p.tables e below (s₁.setTop (mkF m 8 #[.val (.int p1), .val (.long q2), .second, .val (.long q3), .second, .val (.long q4), .second, .val (.long q5), .second, .val (.int (1 : Int32)), .unset, .unset, .unset, .unset, .unset, .unset] [])) _
    refine XS.iload X0.here hx rfl (hb hby at_8) rfl ?_
    show Steps p.tables e below (s₁.setTop (mkF m 10 #[.val (.int p1), .val (.long q2), .second, .val (.long q3), .second, .val (.long q4), .second, .val (.long q5), .second, .val (.int (1 : Int32)), .unset, .unset, .unset, .unset, .unset, .unset] [(.int (1 : Int32))])) _
    refine st6 _ ?_
    show Steps p.tables e below (T6.setTop (mkF m 12 #[.val (.int p1), .val (.long q2), .second, .val (.long q3), .second, .val (.long q4), .second, .val (.long q5), .second, .val (.int (1 : Int32)), .unset, .unset, .unset, .unset, .unset, .unset] [(.ref b6)])) _
    refine XS.astore X6.here hx rfl (hb hby at_12) rfl rfl (l' := #[.val (.int p1), .val (.long q2), .second, .val (.long q3), .second, .val (.long q4), .second, .val (.long q5), .second, .val (.int (1 : Int32)), .val (.ref b6), .unset, .unset, .unset, .unset, .unset]) rfl ?_
    show Steps p.tables e below (T6.setTop (mkF m 14 #[.val (.int p1), .val (.long q2), .second, .val (.long q3), .second, .val (.long q4), .second, .val (.long q5), .second, .val (.int (1 : Int32)), .val (.ref b6), .unset, .unset, .unset, .unset, .unset] [])) _
    refine XS.lconst X6.here hx rfl (hb hby at_14) ?_
    show Steps p.tables e below (T6.setTop (mkF m 15 #[.val (.int p1), .val (.long q2), .second, .val (.long q3), .second, .val (.long q4), .second, .val (.long q5), .second, .val (.int (1 : Int32)), .val (.ref b6), .unset, .unset, .unset, .unset, .unset] [(.long (0 : Int64))])) _
    refine XS.lstore X6.here hx rfl (hb hby at_15) rfl (l' := #[.val (.int p1), .val (.long q2), .second, .val (.long q3), .second, .val (.long q4), .second, .val (.long q5), .second, .val (.int (1 : Int32)), .val (.ref b6), .val (.long (0 : Int64)), .second, .unset, .unset, .unset]) rfl ?_
    show Steps p.tables e below (T6.setTop (mkF m 17 #[.val (.int p1), .val (.long q2), .second, .val (.long q3), .second, .val (.long q4), .second, .val (.long q5), .second, .val (.int (1 : Int32)), .val (.ref b6), .val (.long (0 : Int64)), .second, .unset, .unset, .unset] [])) _
    refine XS.iload X6.here hx rfl (hb hby at_17) rfl ?_
    show Steps p.tables e below (T6.setTop (mkF m 19 #[.val (.int p1), .val (.long q2), .second, .val (.long q3), .second, .val (.long q4), .second, .val (.long q5), .second, .val (.int (1 : Int32)), .val (.ref b6), .val (.long (0 : Int64)), .second, .unset, .unset, .unset] [(.int (1 : Int32))])) _
    refine XS.ifNo X6.here hx rfl (hb hby at_19) rfl ((if0 _ _).trans (tlt hc19).2.2.2) ?_
    show Steps p.tables e below (T6.setTop (mkF m 22 #[.val (.int p1), .val (.long q2), .second, .val (.long q3), .second, .val (.long q4), .second, .val (.long q5), .second, .val (.int (1 : Int32)), .val (.ref b6), .val (.long (0 : Int64)), .second, .unset, .unset, .unset] [])) _
    refine XS.aload X6.here hx rfl (hb hby at_22) rfl rfl ?_
    show Steps p.tables e below (T6.setTop (mkF m 24 #[.val (.int p1), .val (.long q2), .second, .val (.long q3), .second, .val (.long q4), .second, .val (.long q5), .second, .val (.int (1 : Int32)), .val (.ref b6), .val (.long (0 : Int64)), .second, .unset, .unset, .unset] [(.ref b6)])) _
    refine XS.iconst X6.here hx rfl (hb hby at_24) ?_
    show Steps p.tables e below (T6.setTop (mkF m 25 #[.val (.int p1), .val (.long q2), .second, .val (.long q3), .second, .val (.long q4), .second, .val (.long q5), .second, .val (.int (1 : Int32)), .val (.ref b6), .val (.long (0 : Int64)), .second, .unset, .unset, .unset] [(.int (0 : Int32)), (.ref b6)])) _
    refine XS.lloadN X6.here hx rfl (hb hby at_25) rfl ?_
    show Steps p.tables e below (T6.setTop (mkF m 26 #[.val (.int p1), .val (.long q2), .second, .val (.long q3), .second, .val (.long q4), .second, .val (.long q5), .second, .val (.int (1 : Int32)), .val (.ref b6), .val (.long (0 : Int64)), .second, .unset, .unset, .unset] [(.long q2), (.int (0 : Int32)), (.ref b6)])) _
    refine st7 _ ?_
    show Steps p.tables e below (T7.setTop (mkF m 27 #[.val (.int p1), .val (.long q2), .second, .val (.long q3), .second, .val (.long q4), .second, .val (.long q5), .second, .val (.int (1 : Int32)), .val (.ref b6), .val (.long (0 : Int64)), .second, .unset, .unset, .unset] [])) _
    refine XS.lload X7.here hx rfl (hb hby at_27) rfl ?_
    show Steps p.tables e below (T7.setTop (mkF m 29 #[.val (.int p1), .val (.long q2), .second, .val (.long q3), .second, .val (.long q4), .second, .val (.long q5), .second, .val (.int (1 : Int32)), .val (.ref b6), .val (.long (0 : Int64)), .second, .unset, .unset, .unset] [(.long (0 : Int64))])) _
    refine XS.lloadN X7.here hx rfl (hb hby at_29) rfl ?_
    show Steps p.tables e below (T7.setTop (mkF m 30 #[.val (.int p1), .val (.long q2), .second, .val (.long q3), .second, .val (.long q4), .second, .val (.long q5), .second, .val (.int (1 : Int32)), .val (.ref b6), .val (.long (0 : Int64)), .second, .unset, .unset, .unset] [(.long q2), (.long (0 : Int64))])) _
    refine XS.ladd X7.here hx rfl (hb hby at_30) rfl ?_
    show Steps p.tables e below (T7.setTop (mkF m 31 #[.val (.int p1), .val (.long q2), .second, .val (.long q3), .second, .val (.long q4), .second, .val (.long q5), .second, .val (.int (1 : Int32)), .val (.ref b6), .val (.long (0 : Int64)), .second, .unset, .unset, .unset] [(.long ((0 : Int64) + q2))])) _
    refine XS.lstore X7.here hx rfl (hb hby at_31) rfl (l' := #[.val (.int p1), .val (.long q2), .second, .val (.long q3), .second, .val (.long q4), .second, .val (.long q5), .second, .val (.int (1 : Int32)), .val (.ref b6), .val (.long ((0 : Int64) + q2)), .second, .unset, .unset, .unset]) rfl ?_
    show Steps p.tables e below (T7.setTop (mkF m 33 #[.val (.int p1), .val (.long q2), .second, .val (.long q3), .second, .val (.long q4), .second, .val (.long q5), .second, .val (.int (1 : Int32)), .val (.ref b6), .val (.long ((0 : Int64) + q2)), .second, .unset, .unset, .unset] [])) _
    refine XS.iload X7.here hx rfl (hb hby at_33) rfl ?_
    show Steps p.tables e below (T7.setTop (mkF m 35 #[.val (.int p1), .val (.long q2), .second, .val (.long q3), .second, .val (.long q4), .second, .val (.long q5), .second, .val (.int (1 : Int32)), .val (.ref b6), .val (.long ((0 : Int64) + q2)), .second, .unset, .unset, .unset] [(.int (1 : Int32))])) _
    refine XS.iconst X7.here hx rfl (hb hby at_35) ?_
    show Steps p.tables e below (T7.setTop (mkF m 36 #[.val (.int p1), .val (.long q2), .second, .val (.long q3), .second, .val (.long q4), .second, .val (.long q5), .second, .val (.int (1 : Int32)), .val (.ref b6), .val (.long ((0 : Int64) + q2)), .second, .unset, .unset, .unset] [(.int (1 : Int32)), (.int (1 : Int32))])) _
    refine XS.icmpYes X7.here hx rfl (pc0 := 36) (pc' := 50) rfl (hb hby at_36) rfl (flt hc36).2.2.2 (by decide) (by decide) ?_
    show Steps p.tables e below (T7.setTop (mkF m 50 #[.val (.int p1), .val (.long q2), .second, .val (.long q3), .second, .val (.long q4), .second, .val (.long q5), .second, .val (.int (1 : Int32)), .val (.ref b6), .val (.long ((0 : Int64) + q2)), .second, .unset, .unset, .unset] [])) _
    refine XS.iload X7.here hx rfl (hb hby at_50) rfl ?_
    show Steps p.tables e below (T7.setTop (mkF m 52 #[.val (.int p1), .val (.long q2), .second, .val (.long q3), .second, .val (.long q4), .second, .val (.long q5), .second, .val (.int (1 : Int32)), .val (.ref b6), .val (.long ((0 : Int64) + q2)), .second, .unset, .unset, .unset] [(.int (1 : Int32))])) _
    refine XS.iconst X7.here hx rfl (hb hby at_52) ?_
    show Steps p.tables e below (T7.setTop (mkF m 53 #[.val (.int p1), .val (.long q2), .second, .val (.long q3), .second, .val (.long q4), .second, .val (.long q5), .second, .val (.int (1 : Int32)), .val (.ref b6), .val (.long ((0 : Int64) + q2)), .second, .unset, .unset, .unset] [(.int (2 : Int32)), (.int (1 : Int32))])) _
    refine XS.icmpYes X7.here hx rfl (pc0 := 53) (pc' := 69) rfl (hb hby at_53) rfl (flt hc53).2.2.2 (by decide) (by decide) ?_
    show Steps p.tables e below (T7.setTop (mkF m 69 #[.val (.int p1), .val (.long q2), .second, .val (.long q3), .second, .val (.long q4), .second, .val (.long q5), .second, .val (.int (1 : Int32)), .val (.ref b6), .val (.long ((0 : Int64) + q2)), .second, .unset, .unset, .unset] [])) _
    refine XS.iload X7.here hx rfl (hb hby at_69) rfl ?_
    show Steps p.tables e below (T7.setTop (mkF m 71 #[.val (.int p1), .val (.long q2), .second, .val (.long q3), .second, .val (.long q4), .second, .val (.long q5), .second, .val (.int (1 : Int32)), .val (.ref b6), .val (.long ((0 : Int64) + q2)), .second, .unset, .unset, .unset] [(.int (1 : Int32))])) _
    refine XS.iconst X7.here hx rfl (hb hby at_71) ?_
    show Steps p.tables e below (T7.setTop (mkF m 72 #[.val (.int p1), .val (.long q2), .second, .val (.long q3), .second, .val (.long q4), .second, .val (.long q5), .second, .val (.int (1 : Int32)), .val (.ref b6), .val (.long ((0 : Int64) + q2)), .second, .unset, .unset, .unset] [(.int (3 : Int32)), (.int (1 : Int32))])) _
    refine XS.icmpYes X7.here hx rfl (pc0 := 72) (pc' := 88) rfl (hb hby at_72) rfl (flt hc72).2.2.2 (by decide) (by decide) ?_
    show Steps p.tables e below (T7.setTop (mkF m 88 #[.val (.int p1), .val (.long q2), .second, .val (.long q3), .second, .val (.long q4), .second, .val (.long q5), .second, .val (.int (1 : Int32)), .val (.ref b6), .val (.long ((0 : Int64) + q2)), .second, .unset, .unset, .unset] [])) _
    refine XS.aload X7.here hx rfl (hb hby at_88) rfl rfl ?_
    show Steps p.tables e below (T7.setTop (mkF m 90 #[.val (.int p1), .val (.long q2), .second, .val (.long q3), .second, .val (.long q4), .second, .val (.long q5), .second, .val (.int (1 : Int32)), .val (.ref b6), .val (.long ((0 : Int64) + q2)), .second, .unset, .unset, .unset] [(.ref b6)])) _
    refine st8 _ ?_
    show Steps p.tables e below (T8.setTop (mkF m 93 #[.val (.int p1), .val (.long q2), .second, .val (.long q3), .second, .val (.long q4), .second, .val (.long q5), .second, .val (.int (1 : Int32)), .val (.ref b6), .val (.long ((0 : Int64) + q2)), .second, .unset, .unset, .unset] [(.long ((0 : Int64) + q2))])) _
    refine XS.lstore X8.here hx rfl (hb hby at_93) rfl (l' := #[.val (.int p1), .val (.long q2), .second, .val (.long q3), .second, .val (.long q4), .second, .val (.long q5), .second, .val (.int (1 : Int32)), .val (.ref b6), .val (.long ((0 : Int64) + q2)), .second, .val (.long ((0 : Int64) + q2)), .second, .unset]) rfl ?_
    show Steps p.tables e below (T8.setTop (mkF m 95 #[.val (.int p1), .val (.long q2), .second, .val (.long q3), .second, .val (.long q4), .second, .val (.long q5), .second, .val (.int (1 : Int32)), .val (.ref b6), .val (.long ((0 : Int64) + q2)), .second, .val (.long ((0 : Int64) + q2)), .second, .unset] [])) _
    refine XS.iconst X8.here hx rfl (hb hby at_95) ?_
    show Steps p.tables e below (T8.setTop (mkF m 96 #[.val (.int p1), .val (.long q2), .second, .val (.long q3), .second, .val (.long q4), .second, .val (.long q5), .second, .val (.int (1 : Int32)), .val (.ref b6), .val (.long ((0 : Int64) + q2)), .second, .val (.long ((0 : Int64) + q2)), .second, .unset] [(.int (1 : Int32))])) _
    refine XS.istore X8.here hx rfl (hb hby at_96) rfl (l' := #[.val (.int p1), .val (.long q2), .second, .val (.long q3), .second, .val (.long q4), .second, .val (.long q5), .second, .val (.int (1 : Int32)), .val (.ref b6), .val (.long ((0 : Int64) + q2)), .second, .val (.long ((0 : Int64) + q2)), .second, .val (.int (1 : Int32))]) rfl ?_
    show Steps p.tables e below (T8.setTop (mkF m 98 #[.val (.int p1), .val (.long q2), .second, .val (.long q3), .second, .val (.long q4), .second, .val (.long q5), .second, .val (.int (1 : Int32)), .val (.ref b6), .val (.long ((0 : Int64) + q2)), .second, .val (.long ((0 : Int64) + q2)), .second, .val (.int (1 : Int32))] [])) _
    refine XS.iload X8.here hx rfl (hb hby at_98) rfl ?_
    show Steps p.tables e below (T8.setTop (mkF m 100 #[.val (.int p1), .val (.long q2), .second, .val (.long q3), .second, .val (.long q4), .second, .val (.long q5), .second, .val (.int (1 : Int32)), .val (.ref b6), .val (.long ((0 : Int64) + q2)), .second, .val (.long ((0 : Int64) + q2)), .second, .val (.int (1 : Int32))] [(.int (1 : Int32))])) _
    refine XS.ifNo X8.here hx rfl (hb hby at_100) rfl ((if0 _ _).trans (tlt hc100).2.2.2) ?_
    show Steps p.tables e below (T8.setTop (mkF m 103 #[.val (.int p1), .val (.long q2), .second, .val (.long q3), .second, .val (.long q4), .second, .val (.long q5), .second, .val (.int (1 : Int32)), .val (.ref b6), .val (.long ((0 : Int64) + q2)), .second, .val (.long ((0 : Int64) + q2)), .second, .val (.int (1 : Int32))] [])) _
    refine XS.aload X8.here hx rfl (hb hby at_103) rfl rfl ?_
    show Steps p.tables e below (T8.setTop (mkF m 105 #[.val (.int p1), .val (.long q2), .second, .val (.long q3), .second, .val (.long q4), .second, .val (.long q5), .second, .val (.int (1 : Int32)), .val (.ref b6), .val (.long ((0 : Int64) + q2)), .second, .val (.long ((0 : Int64) + q2)), .second, .val (.int (1 : Int32))] [(.ref b6)])) _
    refine XS.iconst X8.here hx rfl (hb hby at_105) ?_
    show Steps p.tables e below (T8.setTop (mkF m 106 #[.val (.int p1), .val (.long q2), .second, .val (.long q3), .second, .val (.long q4), .second, .val (.long q5), .second, .val (.int (1 : Int32)), .val (.ref b6), .val (.long ((0 : Int64) + q2)), .second, .val (.long ((0 : Int64) + q2)), .second, .val (.int (1 : Int32))] [(.int (0 : Int32)), (.ref b6)])) _
    refine X8.laload hx (j := (0 : Int32)) (v := (.long q2)) (by exact Ar_b6.1) (State.isArrayOf_alike hZ.alike Ar_b6.2.1) Ar_b6.2.2 hin106 hat106 (g := (mkF m 106 #[.val (.int p1), .val (.long q2), .second, .val (.long q3), .second, .val (.long q4), .second, .val (.long q5), .second, .val (.int (1 : Int32)), .val (.ref b6), .val (.long ((0 : Int64) + q2)), .second, .val (.long ((0 : Int64) + q2)), .second, .val (.int (1 : Int32))] [(.int (0 : Int32)), (.ref b6)])) rfl rfl (hb hby at_106) _ ?_
    show Steps p.tables e below (T8.setTop (mkF m 107 #[.val (.int p1), .val (.long q2), .second, .val (.long q3), .second, .val (.long q4), .second, .val (.long q5), .second, .val (.int (1 : Int32)), .val (.ref b6), .val (.long ((0 : Int64) + q2)), .second, .val (.long ((0 : Int64) + q2)), .second, .val (.int (1 : Int32))] [(.long q2)])) _
    refine XS.lloadN X8.here hx rfl (hb hby at_107) rfl ?_
    show Steps p.tables e below (T8.setTop (mkF m 108 #[.val (.int p1), .val (.long q2), .second, .val (.long q3), .second, .val (.long q4), .second, .val (.long q5), .second, .val (.int (1 : Int32)), .val (.ref b6), .val (.long ((0 : Int64) + q2)), .second, .val (.long ((0 : Int64) + q2)), .second, .val (.int (1 : Int32))] [(.long q2), (.long q2)])) _
    refine XS.lcmp X8.here hx rfl (hb hby at_108) rfl ?_
    show Steps p.tables e below (T8.setTop (mkF m 109 #[.val (.int p1), .val (.long q2), .second, .val (.long q3), .second, .val (.long q4), .second, .val (.long q5), .second, .val (.int (1 : Int32)), .val (.ref b6), .val (.long ((0 : Int64) + q2)), .second, .val (.long ((0 : Int64) + q2)), .second, .val (.int (1 : Int32))] [(.int (lcmpW q2 q2))])) _
    refine XS.ifYes X8.here hx rfl (pc0 := 109) (pc' := 115) rfl (hb hby at_109) rfl ((if0 _ _).trans (teq hc109).1) (by decide) (by decide) ?_
    show Steps p.tables e below (T8.setTop (mkF m 115 #[.val (.int p1), .val (.long q2), .second, .val (.long q3), .second, .val (.long q4), .second, .val (.long q5), .second, .val (.int (1 : Int32)), .val (.ref b6), .val (.long ((0 : Int64) + q2)), .second, .val (.long ((0 : Int64) + q2)), .second, .val (.int (1 : Int32))] [])) _
    refine XS.iload X8.here hx rfl (hb hby at_115) rfl ?_
    show Steps p.tables e below (T8.setTop (mkF m 117 #[.val (.int p1), .val (.long q2), .second, .val (.long q3), .second, .val (.long q4), .second, .val (.long q5), .second, .val (.int (1 : Int32)), .val (.ref b6), .val (.long ((0 : Int64) + q2)), .second, .val (.long ((0 : Int64) + q2)), .second, .val (.int (1 : Int32))] [(.int (1 : Int32))])) _
    refine XS.iconst X8.here hx rfl (hb hby at_117) ?_
    show Steps p.tables e below (T8.setTop (mkF m 118 #[.val (.int p1), .val (.long q2), .second, .val (.long q3), .second, .val (.long q4), .second, .val (.long q5), .second, .val (.int (1 : Int32)), .val (.ref b6), .val (.long ((0 : Int64) + q2)), .second, .val (.long ((0 : Int64) + q2)), .second, .val (.int (1 : Int32))] [(.int (1 : Int32)), (.int (1 : Int32))])) _
    refine XS.icmpYes X8.here hx rfl (pc0 := 118) (pc' := 133) rfl (hb hby at_118) rfl (flt hc118).2.2.2 (by decide) (by decide) ?_
    show Steps p.tables e below (T8.setTop (mkF m 133 #[.val (.int p1), .val (.long q2), .second, .val (.long q3), .second, .val (.long q4), .second, .val (.long q5), .second, .val (.int (1 : Int32)), .val (.ref b6), .val (.long ((0 : Int64) + q2)), .second, .val (.long ((0 : Int64) + q2)), .second, .val (.int (1 : Int32))] [])) _
    refine XS.iload X8.here hx rfl (hb hby at_133) rfl ?_
    show Steps p.tables e below (T8.setTop (mkF m 135 #[.val (.int p1), .val (.long q2), .second, .val (.long q3), .second, .val (.long q4), .second, .val (.long q5), .second, .val (.int (1 : Int32)), .val (.ref b6), .val (.long ((0 : Int64) + q2)), .second, .val (.long ((0 : Int64) + q2)), .second, .val (.int (1 : Int32))] [(.int (1 : Int32))])) _
    refine XS.iconst X8.here hx rfl (hb hby at_135) ?_
    show Steps p.tables e below (T8.setTop (mkF m 136 #[.val (.int p1), .val (.long q2), .second, .val (.long q3), .second, .val (.long q4), .second, .val (.long q5), .second, .val (.int (1 : Int32)), .val (.ref b6), .val (.long ((0 : Int64) + q2)), .second, .val (.long ((0 : Int64) + q2)), .second, .val (.int (1 : Int32))] [(.int (2 : Int32)), (.int (1 : Int32))])) _
    refine XS.icmpYes X8.here hx rfl (pc0 := 136) (pc' := 152) rfl (hb hby at_136) rfl (flt hc136).2.2.2 (by decide) (by decide) ?_
    show Steps p.tables e below (T8.setTop (mkF m 152 #[.val (.int p1), .val (.long q2), .second, .val (.long q3), .second, .val (.long q4), .second, .val (.long q5), .second, .val (.int (1 : Int32)), .val (.ref b6), .val (.long ((0 : Int64) + q2)), .second, .val (.long ((0 : Int64) + q2)), .second, .val (.int (1 : Int32))] [])) _
    refine XS.iload X8.here hx rfl (hb hby at_152) rfl ?_
    show Steps p.tables e below (T8.setTop (mkF m 154 #[.val (.int p1), .val (.long q2), .second, .val (.long q3), .second, .val (.long q4), .second, .val (.long q5), .second, .val (.int (1 : Int32)), .val (.ref b6), .val (.long ((0 : Int64) + q2)), .second, .val (.long ((0 : Int64) + q2)), .second, .val (.int (1 : Int32))] [(.int (1 : Int32))])) _
    refine XS.iconst X8.here hx rfl (hb hby at_154) ?_
    show Steps p.tables e below (T8.setTop (mkF m 155 #[.val (.int p1), .val (.long q2), .second, .val (.long q3), .second, .val (.long q4), .second, .val (.long q5), .second, .val (.int (1 : Int32)), .val (.ref b6), .val (.long ((0 : Int64) + q2)), .second, .val (.long ((0 : Int64) + q2)), .second, .val (.int (1 : Int32))] [(.int (3 : Int32)), (.int (1 : Int32))])) _
    refine XS.icmpYes X8.here hx rfl (pc0 := 155) (pc' := 171) rfl (hb hby at_155) rfl (flt hc155).2.2.2 (by decide) (by decide) ?_
    show Steps p.tables e below (T8.setTop (mkF m 171 #[.val (.int p1), .val (.long q2), .second, .val (.long q3), .second, .val (.long q4), .second, .val (.long q5), .second, .val (.int (1 : Int32)), .val (.ref b6), .val (.long ((0 : Int64) + q2)), .second, .val (.long ((0 : Int64) + q2)), .second, .val (.int (1 : Int32))] [])) _
    refine XS.lload X8.here hx rfl (hb hby at_171) rfl ?_
    show Steps p.tables e below (T8.setTop (mkF m 173 #[.val (.int p1), .val (.long q2), .second, .val (.long q3), .second, .val (.long q4), .second, .val (.long q5), .second, .val (.int (1 : Int32)), .val (.ref b6), .val (.long ((0 : Int64) + q2)), .second, .val (.long ((0 : Int64) + q2)), .second, .val (.int (1 : Int32))] [(.long ((0 : Int64) + q2))])) _
    refine XS.lload X8.here hx rfl (hb hby at_173) rfl ?_
    show Steps p.tables e below (T8.setTop (mkF m 175 #[.val (.int p1), .val (.long q2), .second, .val (.long q3), .second, .val (.long q4), .second, .val (.long q5), .second, .val (.int (1 : Int32)), .val (.ref b6), .val (.long ((0 : Int64) + q2)), .second, .val (.long ((0 : Int64) + q2)), .second, .val (.int (1 : Int32))] [(.long ((0 : Int64) + q2)), (.long ((0 : Int64) + q2))])) _
    refine XS.lcmp X8.here hx rfl (hb hby at_175) rfl ?_
    show Steps p.tables e below (T8.setTop (mkF m 176 #[.val (.int p1), .val (.long q2), .second, .val (.long q3), .second, .val (.long q4), .second, .val (.long q5), .second, .val (.int (1 : Int32)), .val (.ref b6), .val (.long ((0 : Int64) + q2)), .second, .val (.long ((0 : Int64) + q2)), .second, .val (.int (1 : Int32))] [(.int (lcmpW ((0 : Int64) + q2) ((0 : Int64) + q2)))])) _
    refine XS.ifNo X8.here hx rfl (hb hby at_176) rfl ((if0 _ _).trans (teq ((lw_eq _ _).2 rfl : (lcmpW ((0 : Int64) + q2) ((0 : Int64) + q2)) = (0 : Int32))).2) ?_
    show Steps p.tables e below (T8.setTop (mkF m 179 #[.val (.int p1), .val (.long q2), .second, .val (.long q3), .second, .val (.long q4), .second, .val (.long q5), .second, .val (.int (1 : Int32)), .val (.ref b6), .val (.long ((0 : Int64) + q2)), .second, .val (.long ((0 : Int64) + q2)), .second, .val (.int (1 : Int32))] [])) _
    refine XS.iload X8.here hx rfl (hb hby at_179) rfl ?_
    show Steps p.tables e below (T8.setTop (mkF m 181 #[.val (.int p1), .val (.long q2), .second, .val (.long q3), .second, .val (.long q4), .second, .val (.long q5), .second, .val (.int (1 : Int32)), .val (.ref b6), .val (.long ((0 : Int64) + q2)), .second, .val (.long ((0 : Int64) + q2)), .second, .val (.int (1 : Int32))] [(.int (1 : Int32))])) _
    refine XS.ifNo X8.here hx rfl (hb hby at_181) rfl ((if0 _ _).trans (feq hc181).1) ?_
    show Steps p.tables e below (T8.setTop (mkF m 184 #[.val (.int p1), .val (.long q2), .second, .val (.long q3), .second, .val (.long q4), .second, .val (.long q5), .second, .val (.int (1 : Int32)), .val (.ref b6), .val (.long ((0 : Int64) + q2)), .second, .val (.long ((0 : Int64) + q2)), .second, .val (.int (1 : Int32))] [])) _
    refine XS.iconst X8.here hx rfl (hb hby at_184) ?_
    show Steps p.tables e below (T8.setTop (mkF m 185 #[.val (.int p1), .val (.long q2), .second, .val (.long q3), .second, .val (.long q4), .second, .val (.long q5), .second, .val (.int (1 : Int32)), .val (.ref b6), .val (.long ((0 : Int64) + q2)), .second, .val (.long ((0 : Int64) + q2)), .second, .val (.int (1 : Int32))] [(.int (1 : Int32))])) _
    refine XS.goto X8.here hx rfl (pc0 := 185) (pc' := 189) rfl (hb hby at_185) (by decide) (by decide) ?_
    show Steps p.tables e below (T8.setTop (mkF m 189 #[.val (.int p1), .val (.long q2), .second, .val (.long q3), .second, .val (.long q4), .second, .val (.long q5), .second, .val (.int (1 : Int32)), .val (.ref b6), .val (.long ((0 : Int64) + q2)), .second, .val (.long ((0 : Int64) + q2)), .second, .val (.int (1 : Int32))] [(.int (1 : Int32))])) _
    exact retN X8 hx (t := .boolean) Bd.returns (by simp) (hb hby at_189) hr
  · show Q0 Z p1 q2 q3 q4 q5 h0 n0 _ T8.heap _
    exact ⟨rfl, N8⟩
set_option maxRecDepth 65536 in
set_option maxHeartbeats 40000000 in
theorem rm0_2 (l : Launch) (Z : State) (a0 : Array Value) (hw : ∀ d ∈ tables_1, d.before a0 Z = true) (ws : List Jvm.Cond) (p1 : Int32) (q2 : Int64) (q3 : Int64) (q4 : Int64) (q5 : Int64) (h0 : Heap) (n0 : Nat) (Z0 : n0 ≤ h0.size) (hk : ((p1 &&& (2147483647 : Int32)) % (5 : Int32)) = (2 : Int32)) (hc19 : (0 : Int32) < (2 : Int32)) (hc36 : (1 : Int32) < (2 : Int32)) (hc53 : ¬ ((2 : Int32) < (2 : Int32))) (hc72 : ¬ ((3 : Int32) < (2 : Int32))) (hc100 : (0 : Int32) < (2 : Int32)) (hc109 : (lcmpW q2 q2) = (0 : Int32)) (hc118 : (1 : Int32) < (2 : Int32)) (hc127 : (lcmpW q3 q3) = (0 : Int32)) (hc136 : ¬ ((2 : Int32) < (2 : Int32))) (hc155 : ¬ ((3 : Int32) < (2 : Int32))) (hc181 : ¬ ((1 : Int32) = (0 : Int32))) :
    MetFree l x (head1 (Jvm.Cond.code x code maxLocals ret :: ws) room_1) (fun a U => a = #[(.int p1), (.long q2), (.long q3), (.long q4), (.long q5)] ∧ Z.Warmed39 U.vm ∧ U.heap = h0) (fun _ _ _ _ _ => True) (fun _ U o U' => ∃ v L, o = .returned v ∧ Q0 Z p1 q2 q3 q4 q5 h0 n0 v U'.heap L ∧ FrameEnd U o U' L room_1.cells room_1.slots) := by
  refine MetFree.of_bodySF (plainFor_of_name pn_0) hisR ?_
  intro p e s m args below meth c s₁ Bd hml0 hP hK
  obtain ⟨rfl, hZ, hh⟩ := hP
  have hx := Bd.exec
  have hby := Bd.bytes
  have hml : c.maxLocals = 16 := hml0
  have hown : s.vm.findClass "com/example/turnstile/turnstile/lab/WorkersSumPinLaw" = some m.cls := findClass_of_methodNamed Bd.named
  have hnm := (name_of_methodNamed Bd.named Bd.method).1
  have X0 : Stand p l e room_1 s m #[(.int p1), (.long q2), (.long q3), (.long q4), (.long q5)] below meth c s₁ [] 0 0 := Stand.of_body Bd
  have e0 : s₁.heap = h0 := by rw [← hh, Bd.state]; rfl
  have N0 := Fr.nil n0
  have pre0 : ∀ t, Steps p.tables e below (s₁.setTop (mkF m 0 #[.val (.int p1), .val (.long q2), .second, .val (.long q3), .second, .val (.long q4), .second, .val (.long q5), .second, .unset, .unset, .unset, .unset, .unset, .unset, .unset] [])) t → Steps p.tables e below (s₁.setTop (entryFrame m #[(.int p1), (.long q2), (.long q3), (.long q4), (.long q5)] maxLocals)) t := fun t k => castTop (ef_0 m p1 q2 q3 q4 q5) k
  obtain ⟨T6, h6, k6, X6, e6, E6, A6, st6⟩ := newP X0 hx hZ (hw _ (List.mem_of_getElem? (i := 1) rfl)) e0 (g := (mkF m 10 #[.val (.int p1), .val (.long q2), .second, .val (.long q3), .second, .val (.long q4), .second, .val (.long q5), .second, .val (.int (2 : Int32)), .unset, .unset, .unset, .unset, .unset, .unset] [(.int (2 : Int32))])) rfl (hb hby at_10) rfl (by decide) (cap := 2) (by decide) (by decide) (by decide) (by decide)
  obtain ⟨b6, g6⟩ : ∃ z, z = h0.size := ⟨_, rfl⟩
  rw [← g6] at A6 st6
  have V_b6 : Arv Z h6 b6 k6 .long (2 : Int32) [(.long (0 : Int64)), (.long (0 : Int64))] (.long (0 : Int64)) := (Arv.new A6 (by decide)).pad (pad_rep [] (.long (0 : Int64)) 2)
  have g_b6 : n0 ≤ b6 := Nat.le_trans Z0 (Nat.le_of_eq g6.symm)
  have sz_b6 : h0.size ≤ b6 := (Nat.le_trans (Keep.refl h0 []).1 (Nat.le_of_eq g6.symm))
  have K6 : Keep h0 h6 [] := (Keep.refl h0 []).ext E6
  obtain ⟨cl_b6_26, Ar_b6, q_b6, S_b6, N_b6, H_b6, G_b6⟩ := V_b6
  have hin26 : ¬ ((0 : Int32) < 0 ∨ cl_b6_26.slots.size ≤ ((0 : Int32)).toNatClampNeg) := inb_of S_b6 ⟨by decide, by decide⟩
  obtain ⟨T7, h7, X7, e7, W7, st7⟩ := stJ X6 hx hZ e6 Ar_b6 (j := (0 : Int32)) hin26 (g := (mkF m 26 #[.val (.int p1), .val (.long q2), .second, .val (.long q3), .second, .val (.long q4), .second, .val (.long q5), .second, .val (.int (2 : Int32)), .val (.ref b6), .val (.long (0 : Int64)), .second, .unset, .unset, .unset] [(.long q2), (.int (0 : Int32)), (.ref b6)])) rfl rfl (hb hby at_26)
  have V_b6_7 := Arv.set Ar_b6 q_b6 S_b6 N_b6 H_b6 G_b6 rfl W7 0 rfl (Nat.le_of_ble_eq_true rfl)
  have K7 : Keep h0 h7 [] := K6.wr W7 (Or.inr sz_b6)
  have N7 := Fr.snoc X7 N0 g_b6
  obtain ⟨cl_b6_43, Ar_b6, q_b6, S_b6, N_b6, H_b6, G_b6⟩ := V_b6_7
  have hin43 : ¬ ((1 : Int32) < 0 ∨ cl_b6_43.slots.size ≤ ((1 : Int32)).toNatClampNeg) := inb_of S_b6 ⟨by decide, by decide⟩
  obtain ⟨T8, h8, X8, e8, W8, st8⟩ := stJ X7 hx hZ e7 Ar_b6 (j := (1 : Int32)) hin43 (g := (mkF m 43 #[.val (.int p1), .val (.long q2), .second, .val (.long q3), .second, .val (.long q4), .second, .val (.long q5), .second, .val (.int (2 : Int32)), .val (.ref b6), .val (.long ((0 : Int64) + q2)), .second, .unset, .unset, .unset] [(.long q3), (.int (1 : Int32)), (.ref b6)])) rfl rfl (hb hby at_43)
  have V_b6_8 := Arv.set Ar_b6 q_b6 S_b6 N_b6 H_b6 G_b6 rfl W8 1 rfl (Nat.le_of_ble_eq_true rfl)
  have K8 : Keep h0 h8 [] := K7.wr W8 (Or.inr sz_b6)
  have N8 := Fr.snoc X8 N7 g_b6
  obtain ⟨_, _, ⟨T9, L9, k9, n9⟩, -, X9, ⟨Lc9, hQ9, l9, y9, z9⟩, st9⟩ := Jvm.LawKit.callS X8 hx (y := (⟨"com/example/turnstile/turnstile/lab/Workers", "sum", "([J)J"⟩ : MethodName)) hown (mvT hZ (hw _ (List.mem_of_getElem? (i := 2) rfl))) (mvT hZ (hw _ (List.mem_of_getElem? (i := 3) rfl))) (mvT hZ (hw _ (List.mem_of_getElem? (i := 4) rfl))) (mvT hZ (hw _ (List.mem_of_getElem? (i := 5) rfl))) (by decide) (backOf (W := 0) (rm1 l Z a0 hw [] b6 _ k6 (fun j => [q2, q3].getD j 0) 2 (by decide) h8 n0 (Nat.le_trans Z0 K8.1) V_b6_8 (fun j hj => match j, hj with | 0, _ => rfl | 1, _ => rfl)) hZ (hw _ (List.mem_of_getElem? (i := 5) rfl)) (hw _ (List.mem_of_getElem? (i := 4) rfl)) (by decide) (by decide)) (g := (mkF m 90 #[.val (.int p1), .val (.long q2), .second, .val (.long q3), .second, .val (.long q4), .second, .val (.long q5), .second, .val (.int (2 : Int32)), .val (.ref b6), .val (.long (((0 : Int64) + q2) + q3)), .second, .unset, .unset, .unset] [(.ref b6)])) rfl (by rw [hml]; rfl) (argsL := [(.ref b6)]) (rest := []) (lenOf pd_0_0 rfl) rfl (by show 2 * 0 + _ ≤ _; exact Nat.le_of_eq rfl) (hb hby at_90) (fun _ _ => ⟨rfl, e8, (by decide : 1 + 0 ≤ _), (by decide : 2 + 0 ≤ _)⟩)
  dsimp only [Pt.U, Pt.locs, Pt.cells, Pt.slots] at X9 l9 y9 z9 st9 hQ9
  subst l9 y9 z9
  obtain ⟨rfl, N9q, eq9⟩ := hQ9
  have N9 := Fr.app N8 N9q
  have Zc9 : n0 ≤ T9.heap.size := by rw [eq9]; exact (Nat.le_trans Z0 K8.1)
  obtain ⟨clB, ArB, -, SzB, NnB, HhB, -⟩ := V_b6_8
  have Ar_b6 : Arr Z T9.heap b6 clB .long := by rw [eq9]; exact ArB
  have hin106 : ¬ ((0 : Int32) < 0 ∨ clB.slots.size ≤ ((0 : Int32)).toNatClampNeg) := inb_of SzB ⟨by decide, by decide⟩
  have hat106 : clB.slots[((0 : Int32)).toNatClampNeg]? = some (.long q2) := by rw [show ((0 : Int32)).toNatClampNeg = 0 from by decide]; exact HhB 0 (by rw [SzB]; decide)
  have hin124 : ¬ ((1 : Int32) < 0 ∨ clB.slots.size ≤ ((1 : Int32)).toNatClampNeg) := inb_of SzB ⟨by decide, by decide⟩
  have hat124 : clB.slots[((1 : Int32)).toNatClampNeg]? = some (.long q3) := by rw [show ((1 : Int32)).toNatClampNeg = 1 from by decide]; exact HhB 1 (by rw [SzB]; decide)
  obtain ⟨fs, hr, hrun, hended, hW, hsame⟩ := X9.leave (v := some (.int (1 : Int32))) (fun h => by rw [Bd.returns] at h; cases h)
  refine ⟨_, _, pre0 _ ?_, hrun, hended, _, _, rfl, ?_, ⟨_, rfl⟩, hW, hsame.mono (by decide) (by decide)⟩
  · show Steps p.tables e below (s₁.setTop (mkF m 0 #[.val (.int p1), .val (.long q2), .second, .val (.long q3), .second, .val (.long q4), .second, .val (.long q5), .second, .unset, .unset, .unset, .unset, .unset, .unset, .unset] [])) _
    refine XS.iloadN X0.here hx rfl (hb hby at_0) rfl ?_
    show Steps p.tables e below (s₁.setTop (mkF m 1 #[.val (.int p1), .val (.long q2), .second, .val (.long q3), .second, .val (.long q4), .second, .val (.long q5), .second, .unset, .unset, .unset, .unset, .unset, .unset, .unset] [(.int p1)])) _
    refine X0.ldcInt hx hown (mvT hZ (hw _ (List.mem_of_getElem? (i := 0) rfl))) (g := (mkF m 1 #[.val (.int p1), .val (.long q2), .second, .val (.long q3), .second, .val (.long q4), .second, .val (.long q5), .second, .unset, .unset, .unset, .unset, .unset, .unset, .unset] [(.int p1)])) rfl (hb hby at_1) _ ?_
    show Steps p.tables e below (s₁.setTop (mkF m 3 #[.val (.int p1), .val (.long q2), .second, .val (.long q3), .second, .val (.long q4), .second, .val (.long q5), .second, .unset, .unset, .unset, .unset, .unset, .unset, .unset] [(.int (2147483647 : Int32)), (.int p1)])) _
    refine XS.iand X0.here hx rfl (hb hby at_3) rfl ?_
    show Steps p.tables e below (s₁.setTop (mkF m 4 #[.val (.int p1), .val (.long q2), .second, .val (.long q3), .second, .val (.long q4), .second, .val (.long q5), .second, .unset, .unset, .unset, .unset, .unset, .unset, .unset] [(.int (p1 &&& (2147483647 : Int32)))])) _
    refine XS.iconst X0.here hx rfl (hb hby at_4) ?_
    show Steps p.tables e below (s₁.setTop (mkF m 5 #[.val (.int p1), .val (.long q2), .second, .val (.long q3), .second, .val (.long q4), .second, .val (.long q5), .second, .unset, .unset, .unset, .unset, .unset, .unset, .unset] [(.int (5 : Int32)), (.int (p1 &&& (2147483647 : Int32)))])) _
    refine iremM X0 hx rfl (hb hby at_5) rfl (by decide) ?_
    show Steps p.tables e below (s₁.setTop (mkF m 6 #[.val (.int p1), .val (.long q2), .second, .val (.long q3), .second, .val (.long q4), .second, .val (.long q5), .second, .unset, .unset, .unset, .unset, .unset, .unset, .unset] [(.int ((p1 &&& (2147483647 : Int32)) % (5 : Int32)))])) _
    rw [hk]
    show Steps p.tables e below (s₁.setTop (mkF m 6 #[.val (.int p1), .val (.long q2), .second, .val (.long q3), .second, .val (.long q4), .second, .val (.long q5), .second, .unset, .unset, .unset, .unset, .unset, .unset, .unset] [(.int (2 : Int32))])) _
    refine XS.istore X0.here hx rfl (hb hby at_6) rfl (l' := #[.val (.int p1), .val (.long q2), .second, .val (.long q3), .second, .val (.long q4), .second, .val (.long q5), .second, .val (.int (2 : Int32)), .unset, .unset, .unset, .unset, .unset, .unset]) rfl ?_
    show Steps p.tables e below (s₁.setTop (mkF m 8 #[.val (.int p1), .val (.long q2), .second, .val (.long q3), .second, .val (.long q4), .second, .val (.long q5), .second, .val (.int (2 : Int32)), .unset, .unset, .unset, .unset, .unset, .unset] [])) _
    refine XS.iload X0.here hx rfl (hb hby at_8) rfl ?_
    show Steps p.tables e below (s₁.setTop (mkF m 10 #[.val (.int p1), .val (.long q2), .second, .val (.long q3), .second, .val (.long q4), .second, .val (.long q5), .second, .val (.int (2 : Int32)), .unset, .unset, .unset, .unset, .unset, .unset] [(.int (2 : Int32))])) _
    refine st6 _ ?_
    show Steps p.tables e below (T6.setTop (mkF m 12 #[.val (.int p1), .val (.long q2), .second, .val (.long q3), .second, .val (.long q4), .second, .val (.long q5), .second, .val (.int (2 : Int32)), .unset, .unset, .unset, .unset, .unset, .unset] [(.ref b6)])) _
    refine XS.astore X6.here hx rfl (hb hby at_12) rfl rfl (l' := #[.val (.int p1), .val (.long q2), .second, .val (.long q3), .second, .val (.long q4), .second, .val (.long q5), .second, .val (.int (2 : Int32)), .val (.ref b6), .unset, .unset, .unset, .unset, .unset]) rfl ?_
    show Steps p.tables e below (T6.setTop (mkF m 14 #[.val (.int p1), .val (.long q2), .second, .val (.long q3), .second, .val (.long q4), .second, .val (.long q5), .second, .val (.int (2 : Int32)), .val (.ref b6), .unset, .unset, .unset, .unset, .unset] [])) _
    refine XS.lconst X6.here hx rfl (hb hby at_14) ?_
    show Steps p.tables e below (T6.setTop (mkF m 15 #[.val (.int p1), .val (.long q2), .second, .val (.long q3), .second, .val (.long q4), .second, .val (.long q5), .second, .val (.int (2 : Int32)), .val (.ref b6), .unset, .unset, .unset, .unset, .unset] [(.long (0 : Int64))])) _
    refine XS.lstore X6.here hx rfl (hb hby at_15) rfl (l' := #[.val (.int p1), .val (.long q2), .second, .val (.long q3), .second, .val (.long q4), .second, .val (.long q5), .second, .val (.int (2 : Int32)), .val (.ref b6), .val (.long (0 : Int64)), .second, .unset, .unset, .unset]) rfl ?_
    show Steps p.tables e below (T6.setTop (mkF m 17 #[.val (.int p1), .val (.long q2), .second, .val (.long q3), .second, .val (.long q4), .second, .val (.long q5), .second, .val (.int (2 : Int32)), .val (.ref b6), .val (.long (0 : Int64)), .second, .unset, .unset, .unset] [])) _
    refine XS.iload X6.here hx rfl (hb hby at_17) rfl ?_
    show Steps p.tables e below (T6.setTop (mkF m 19 #[.val (.int p1), .val (.long q2), .second, .val (.long q3), .second, .val (.long q4), .second, .val (.long q5), .second, .val (.int (2 : Int32)), .val (.ref b6), .val (.long (0 : Int64)), .second, .unset, .unset, .unset] [(.int (2 : Int32))])) _
    refine XS.ifNo X6.here hx rfl (hb hby at_19) rfl ((if0 _ _).trans (tlt hc19).2.2.2) ?_
    show Steps p.tables e below (T6.setTop (mkF m 22 #[.val (.int p1), .val (.long q2), .second, .val (.long q3), .second, .val (.long q4), .second, .val (.long q5), .second, .val (.int (2 : Int32)), .val (.ref b6), .val (.long (0 : Int64)), .second, .unset, .unset, .unset] [])) _
    refine XS.aload X6.here hx rfl (hb hby at_22) rfl rfl ?_
    show Steps p.tables e below (T6.setTop (mkF m 24 #[.val (.int p1), .val (.long q2), .second, .val (.long q3), .second, .val (.long q4), .second, .val (.long q5), .second, .val (.int (2 : Int32)), .val (.ref b6), .val (.long (0 : Int64)), .second, .unset, .unset, .unset] [(.ref b6)])) _
    refine XS.iconst X6.here hx rfl (hb hby at_24) ?_
    show Steps p.tables e below (T6.setTop (mkF m 25 #[.val (.int p1), .val (.long q2), .second, .val (.long q3), .second, .val (.long q4), .second, .val (.long q5), .second, .val (.int (2 : Int32)), .val (.ref b6), .val (.long (0 : Int64)), .second, .unset, .unset, .unset] [(.int (0 : Int32)), (.ref b6)])) _
    refine XS.lloadN X6.here hx rfl (hb hby at_25) rfl ?_
    show Steps p.tables e below (T6.setTop (mkF m 26 #[.val (.int p1), .val (.long q2), .second, .val (.long q3), .second, .val (.long q4), .second, .val (.long q5), .second, .val (.int (2 : Int32)), .val (.ref b6), .val (.long (0 : Int64)), .second, .unset, .unset, .unset] [(.long q2), (.int (0 : Int32)), (.ref b6)])) _
    refine st7 _ ?_
    show Steps p.tables e below (T7.setTop (mkF m 27 #[.val (.int p1), .val (.long q2), .second, .val (.long q3), .second, .val (.long q4), .second, .val (.long q5), .second, .val (.int (2 : Int32)), .val (.ref b6), .val (.long (0 : Int64)), .second, .unset, .unset, .unset] [])) _
    refine XS.lload X7.here hx rfl (hb hby at_27) rfl ?_
    show Steps p.tables e below (T7.setTop (mkF m 29 #[.val (.int p1), .val (.long q2), .second, .val (.long q3), .second, .val (.long q4), .second, .val (.long q5), .second, .val (.int (2 : Int32)), .val (.ref b6), .val (.long (0 : Int64)), .second, .unset, .unset, .unset] [(.long (0 : Int64))])) _
    refine XS.lloadN X7.here hx rfl (hb hby at_29) rfl ?_
    show Steps p.tables e below (T7.setTop (mkF m 30 #[.val (.int p1), .val (.long q2), .second, .val (.long q3), .second, .val (.long q4), .second, .val (.long q5), .second, .val (.int (2 : Int32)), .val (.ref b6), .val (.long (0 : Int64)), .second, .unset, .unset, .unset] [(.long q2), (.long (0 : Int64))])) _
    refine XS.ladd X7.here hx rfl (hb hby at_30) rfl ?_
    show Steps p.tables e below (T7.setTop (mkF m 31 #[.val (.int p1), .val (.long q2), .second, .val (.long q3), .second, .val (.long q4), .second, .val (.long q5), .second, .val (.int (2 : Int32)), .val (.ref b6), .val (.long (0 : Int64)), .second, .unset, .unset, .unset] [(.long ((0 : Int64) + q2))])) _
    refine XS.lstore X7.here hx rfl (hb hby at_31) rfl (l' := #[.val (.int p1), .val (.long q2), .second, .val (.long q3), .second, .val (.long q4), .second, .val (.long q5), .second, .val (.int (2 : Int32)), .val (.ref b6), .val (.long ((0 : Int64) + q2)), .second, .unset, .unset, .unset]) rfl ?_
    show Steps p.tables e below (T7.setTop (mkF m 33 #[.val (.int p1), .val (.long q2), .second, .val (.long q3), .second, .val (.long q4), .second, .val (.long q5), .second, .val (.int (2 : Int32)), .val (.ref b6), .val (.long ((0 : Int64) + q2)), .second, .unset, .unset, .unset] [])) _
    refine XS.iload X7.here hx rfl (hb hby at_33) rfl ?_
    show Steps p.tables e below (T7.setTop (mkF m 35 #[.val (.int p1), .val (.long q2), .second, .val (.long q3), .second, .val (.long q4), .second, .val (.long q5), .second, .val (.int (2 : Int32)), .val (.ref b6), .val (.long ((0 : Int64) + q2)), .second, .unset, .unset, .unset] [(.int (2 : Int32))])) _
    refine XS.iconst X7.here hx rfl (hb hby at_35) ?_
    show Steps p.tables e below (T7.setTop (mkF m 36 #[.val (.int p1), .val (.long q2), .second, .val (.long q3), .second, .val (.long q4), .second, .val (.long q5), .second, .val (.int (2 : Int32)), .val (.ref b6), .val (.long ((0 : Int64) + q2)), .second, .unset, .unset, .unset] [(.int (1 : Int32)), (.int (2 : Int32))])) _
    refine XS.icmpNo X7.here hx rfl (hb hby at_36) rfl (tlt hc36).2.2.2 ?_
    show Steps p.tables e below (T7.setTop (mkF m 39 #[.val (.int p1), .val (.long q2), .second, .val (.long q3), .second, .val (.long q4), .second, .val (.long q5), .second, .val (.int (2 : Int32)), .val (.ref b6), .val (.long ((0 : Int64) + q2)), .second, .unset, .unset, .unset] [])) _
    refine XS.aload X7.here hx rfl (hb hby at_39) rfl rfl ?_
    show Steps p.tables e below (T7.setTop (mkF m 41 #[.val (.int p1), .val (.long q2), .second, .val (.long q3), .second, .val (.long q4), .second, .val (.long q5), .second, .val (.int (2 : Int32)), .val (.ref b6), .val (.long ((0 : Int64) + q2)), .second, .unset, .unset, .unset] [(.ref b6)])) _
    refine XS.iconst X7.here hx rfl (hb hby at_41) ?_
    show Steps p.tables e below (T7.setTop (mkF m 42 #[.val (.int p1), .val (.long q2), .second, .val (.long q3), .second, .val (.long q4), .second, .val (.long q5), .second, .val (.int (2 : Int32)), .val (.ref b6), .val (.long ((0 : Int64) + q2)), .second, .unset, .unset, .unset] [(.int (1 : Int32)), (.ref b6)])) _
    refine XS.lloadN X7.here hx rfl (hb hby at_42) rfl ?_
    show Steps p.tables e below (T7.setTop (mkF m 43 #[.val (.int p1), .val (.long q2), .second, .val (.long q3), .second, .val (.long q4), .second, .val (.long q5), .second, .val (.int (2 : Int32)), .val (.ref b6), .val (.long ((0 : Int64) + q2)), .second, .unset, .unset, .unset] [(.long q3), (.int (1 : Int32)), (.ref b6)])) _
    refine st8 _ ?_
    show Steps p.tables e below (T8.setTop (mkF m 44 #[.val (.int p1), .val (.long q2), .second, .val (.long q3), .second, .val (.long q4), .second, .val (.long q5), .second, .val (.int (2 : Int32)), .val (.ref b6), .val (.long ((0 : Int64) + q2)), .second, .unset, .unset, .unset] [])) _
    refine XS.lload X8.here hx rfl (hb hby at_44) rfl ?_
    show Steps p.tables e below (T8.setTop (mkF m 46 #[.val (.int p1), .val (.long q2), .second, .val (.long q3), .second, .val (.long q4), .second, .val (.long q5), .second, .val (.int (2 : Int32)), .val (.ref b6), .val (.long ((0 : Int64) + q2)), .second, .unset, .unset, .unset] [(.long ((0 : Int64) + q2))])) _
    refine XS.lloadN X8.here hx rfl (hb hby at_46) rfl ?_
    show Steps p.tables e below (T8.setTop (mkF m 47 #[.val (.int p1), .val (.long q2), .second, .val (.long q3), .second, .val (.long q4), .second, .val (.long q5), .second, .val (.int (2 : Int32)), .val (.ref b6), .val (.long ((0 : Int64) + q2)), .second, .unset, .unset, .unset] [(.long q3), (.long ((0 : Int64) + q2))])) _
    refine XS.ladd X8.here hx rfl (hb hby at_47) rfl ?_
    show Steps p.tables e below (T8.setTop (mkF m 48 #[.val (.int p1), .val (.long q2), .second, .val (.long q3), .second, .val (.long q4), .second, .val (.long q5), .second, .val (.int (2 : Int32)), .val (.ref b6), .val (.long ((0 : Int64) + q2)), .second, .unset, .unset, .unset] [(.long (((0 : Int64) + q2) + q3))])) _
    refine XS.lstore X8.here hx rfl (hb hby at_48) rfl (l' := #[.val (.int p1), .val (.long q2), .second, .val (.long q3), .second, .val (.long q4), .second, .val (.long q5), .second, .val (.int (2 : Int32)), .val (.ref b6), .val (.long (((0 : Int64) + q2) + q3)), .second, .unset, .unset, .unset]) rfl ?_
    show Steps p.tables e below (T8.setTop (mkF m 50 #[.val (.int p1), .val (.long q2), .second, .val (.long q3), .second, .val (.long q4), .second, .val (.long q5), .second, .val (.int (2 : Int32)), .val (.ref b6), .val (.long (((0 : Int64) + q2) + q3)), .second, .unset, .unset, .unset] [])) _
    refine XS.iload X8.here hx rfl (hb hby at_50) rfl ?_
    show Steps p.tables e below (T8.setTop (mkF m 52 #[.val (.int p1), .val (.long q2), .second, .val (.long q3), .second, .val (.long q4), .second, .val (.long q5), .second, .val (.int (2 : Int32)), .val (.ref b6), .val (.long (((0 : Int64) + q2) + q3)), .second, .unset, .unset, .unset] [(.int (2 : Int32))])) _
    refine XS.iconst X8.here hx rfl (hb hby at_52) ?_
    show Steps p.tables e below (T8.setTop (mkF m 53 #[.val (.int p1), .val (.long q2), .second, .val (.long q3), .second, .val (.long q4), .second, .val (.long q5), .second, .val (.int (2 : Int32)), .val (.ref b6), .val (.long (((0 : Int64) + q2) + q3)), .second, .unset, .unset, .unset] [(.int (2 : Int32)), (.int (2 : Int32))])) _
    refine XS.icmpYes X8.here hx rfl (pc0 := 53) (pc' := 69) rfl (hb hby at_53) rfl (flt hc53).2.2.2 (by decide) (by decide) ?_
    show Steps p.tables e below (T8.setTop (mkF m 69 #[.val (.int p1), .val (.long q2), .second, .val (.long q3), .second, .val (.long q4), .second, .val (.long q5), .second, .val (.int (2 : Int32)), .val (.ref b6), .val (.long (((0 : Int64) + q2) + q3)), .second, .unset, .unset, .unset] [])) _
    refine XS.iload X8.here hx rfl (hb hby at_69) rfl ?_
    show Steps p.tables e below (T8.setTop (mkF m 71 #[.val (.int p1), .val (.long q2), .second, .val (.long q3), .second, .val (.long q4), .second, .val (.long q5), .second, .val (.int (2 : Int32)), .val (.ref b6), .val (.long (((0 : Int64) + q2) + q3)), .second, .unset, .unset, .unset] [(.int (2 : Int32))])) _
    refine XS.iconst X8.here hx rfl (hb hby at_71) ?_
    show Steps p.tables e below (T8.setTop (mkF m 72 #[.val (.int p1), .val (.long q2), .second, .val (.long q3), .second, .val (.long q4), .second, .val (.long q5), .second, .val (.int (2 : Int32)), .val (.ref b6), .val (.long (((0 : Int64) + q2) + q3)), .second, .unset, .unset, .unset] [(.int (3 : Int32)), (.int (2 : Int32))])) _
    refine XS.icmpYes X8.here hx rfl (pc0 := 72) (pc' := 88) rfl (hb hby at_72) rfl (flt hc72).2.2.2 (by decide) (by decide) ?_
    show Steps p.tables e below (T8.setTop (mkF m 88 #[.val (.int p1), .val (.long q2), .second, .val (.long q3), .second, .val (.long q4), .second, .val (.long q5), .second, .val (.int (2 : Int32)), .val (.ref b6), .val (.long (((0 : Int64) + q2) + q3)), .second, .unset, .unset, .unset] [])) _
    refine XS.aload X8.here hx rfl (hb hby at_88) rfl rfl ?_
    show Steps p.tables e below (T8.setTop (mkF m 90 #[.val (.int p1), .val (.long q2), .second, .val (.long q3), .second, .val (.long q4), .second, .val (.long q5), .second, .val (.int (2 : Int32)), .val (.ref b6), .val (.long (((0 : Int64) + q2) + q3)), .second, .unset, .unset, .unset] [(.ref b6)])) _
    refine st9 _ ?_
    show Steps p.tables e below (T9.setTop (mkF m 93 #[.val (.int p1), .val (.long q2), .second, .val (.long q3), .second, .val (.long q4), .second, .val (.long q5), .second, .val (.int (2 : Int32)), .val (.ref b6), .val (.long (((0 : Int64) + q2) + q3)), .second, .unset, .unset, .unset] [(.long (((0 : Int64) + q2) + q3))])) _
    refine XS.lstore X9.here hx rfl (hb hby at_93) rfl (l' := #[.val (.int p1), .val (.long q2), .second, .val (.long q3), .second, .val (.long q4), .second, .val (.long q5), .second, .val (.int (2 : Int32)), .val (.ref b6), .val (.long (((0 : Int64) + q2) + q3)), .second, .val (.long (((0 : Int64) + q2) + q3)), .second, .unset]) rfl ?_
    show Steps p.tables e below (T9.setTop (mkF m 95 #[.val (.int p1), .val (.long q2), .second, .val (.long q3), .second, .val (.long q4), .second, .val (.long q5), .second, .val (.int (2 : Int32)), .val (.ref b6), .val (.long (((0 : Int64) + q2) + q3)), .second, .val (.long (((0 : Int64) + q2) + q3)), .second, .unset] [])) _
    refine XS.iconst X9.here hx rfl (hb hby at_95) ?_
    show Steps p.tables e below (T9.setTop (mkF m 96 #[.val (.int p1), .val (.long q2), .second, .val (.long q3), .second, .val (.long q4), .second, .val (.long q5), .second, .val (.int (2 : Int32)), .val (.ref b6), .val (.long (((0 : Int64) + q2) + q3)), .second, .val (.long (((0 : Int64) + q2) + q3)), .second, .unset] [(.int (1 : Int32))])) _
    refine XS.istore X9.here hx rfl (hb hby at_96) rfl (l' := #[.val (.int p1), .val (.long q2), .second, .val (.long q3), .second, .val (.long q4), .second, .val (.long q5), .second, .val (.int (2 : Int32)), .val (.ref b6), .val (.long (((0 : Int64) + q2) + q3)), .second, .val (.long (((0 : Int64) + q2) + q3)), .second, .val (.int (1 : Int32))]) rfl ?_
    show Steps p.tables e below (T9.setTop (mkF m 98 #[.val (.int p1), .val (.long q2), .second, .val (.long q3), .second, .val (.long q4), .second, .val (.long q5), .second, .val (.int (2 : Int32)), .val (.ref b6), .val (.long (((0 : Int64) + q2) + q3)), .second, .val (.long (((0 : Int64) + q2) + q3)), .second, .val (.int (1 : Int32))] [])) _
    refine XS.iload X9.here hx rfl (hb hby at_98) rfl ?_
    show Steps p.tables e below (T9.setTop (mkF m 100 #[.val (.int p1), .val (.long q2), .second, .val (.long q3), .second, .val (.long q4), .second, .val (.long q5), .second, .val (.int (2 : Int32)), .val (.ref b6), .val (.long (((0 : Int64) + q2) + q3)), .second, .val (.long (((0 : Int64) + q2) + q3)), .second, .val (.int (1 : Int32))] [(.int (2 : Int32))])) _
    refine XS.ifNo X9.here hx rfl (hb hby at_100) rfl ((if0 _ _).trans (tlt hc100).2.2.2) ?_
    show Steps p.tables e below (T9.setTop (mkF m 103 #[.val (.int p1), .val (.long q2), .second, .val (.long q3), .second, .val (.long q4), .second, .val (.long q5), .second, .val (.int (2 : Int32)), .val (.ref b6), .val (.long (((0 : Int64) + q2) + q3)), .second, .val (.long (((0 : Int64) + q2) + q3)), .second, .val (.int (1 : Int32))] [])) _
    refine XS.aload X9.here hx rfl (hb hby at_103) rfl rfl ?_
    show Steps p.tables e below (T9.setTop (mkF m 105 #[.val (.int p1), .val (.long q2), .second, .val (.long q3), .second, .val (.long q4), .second, .val (.long q5), .second, .val (.int (2 : Int32)), .val (.ref b6), .val (.long (((0 : Int64) + q2) + q3)), .second, .val (.long (((0 : Int64) + q2) + q3)), .second, .val (.int (1 : Int32))] [(.ref b6)])) _
    refine XS.iconst X9.here hx rfl (hb hby at_105) ?_
    show Steps p.tables e below (T9.setTop (mkF m 106 #[.val (.int p1), .val (.long q2), .second, .val (.long q3), .second, .val (.long q4), .second, .val (.long q5), .second, .val (.int (2 : Int32)), .val (.ref b6), .val (.long (((0 : Int64) + q2) + q3)), .second, .val (.long (((0 : Int64) + q2) + q3)), .second, .val (.int (1 : Int32))] [(.int (0 : Int32)), (.ref b6)])) _
    refine X9.laload hx (j := (0 : Int32)) (v := (.long q2)) (by exact Ar_b6.1) (State.isArrayOf_alike hZ.alike Ar_b6.2.1) Ar_b6.2.2 hin106 hat106 (g := (mkF m 106 #[.val (.int p1), .val (.long q2), .second, .val (.long q3), .second, .val (.long q4), .second, .val (.long q5), .second, .val (.int (2 : Int32)), .val (.ref b6), .val (.long (((0 : Int64) + q2) + q3)), .second, .val (.long (((0 : Int64) + q2) + q3)), .second, .val (.int (1 : Int32))] [(.int (0 : Int32)), (.ref b6)])) rfl rfl (hb hby at_106) _ ?_
    show Steps p.tables e below (T9.setTop (mkF m 107 #[.val (.int p1), .val (.long q2), .second, .val (.long q3), .second, .val (.long q4), .second, .val (.long q5), .second, .val (.int (2 : Int32)), .val (.ref b6), .val (.long (((0 : Int64) + q2) + q3)), .second, .val (.long (((0 : Int64) + q2) + q3)), .second, .val (.int (1 : Int32))] [(.long q2)])) _
    refine XS.lloadN X9.here hx rfl (hb hby at_107) rfl ?_
    show Steps p.tables e below (T9.setTop (mkF m 108 #[.val (.int p1), .val (.long q2), .second, .val (.long q3), .second, .val (.long q4), .second, .val (.long q5), .second, .val (.int (2 : Int32)), .val (.ref b6), .val (.long (((0 : Int64) + q2) + q3)), .second, .val (.long (((0 : Int64) + q2) + q3)), .second, .val (.int (1 : Int32))] [(.long q2), (.long q2)])) _
    refine XS.lcmp X9.here hx rfl (hb hby at_108) rfl ?_
    show Steps p.tables e below (T9.setTop (mkF m 109 #[.val (.int p1), .val (.long q2), .second, .val (.long q3), .second, .val (.long q4), .second, .val (.long q5), .second, .val (.int (2 : Int32)), .val (.ref b6), .val (.long (((0 : Int64) + q2) + q3)), .second, .val (.long (((0 : Int64) + q2) + q3)), .second, .val (.int (1 : Int32))] [(.int (lcmpW q2 q2))])) _
    refine XS.ifYes X9.here hx rfl (pc0 := 109) (pc' := 115) rfl (hb hby at_109) rfl ((if0 _ _).trans (teq hc109).1) (by decide) (by decide) ?_
    show Steps p.tables e below (T9.setTop (mkF m 115 #[.val (.int p1), .val (.long q2), .second, .val (.long q3), .second, .val (.long q4), .second, .val (.long q5), .second, .val (.int (2 : Int32)), .val (.ref b6), .val (.long (((0 : Int64) + q2) + q3)), .second, .val (.long (((0 : Int64) + q2) + q3)), .second, .val (.int (1 : Int32))] [])) _
    refine XS.iload X9.here hx rfl (hb hby at_115) rfl ?_
    show Steps p.tables e below (T9.setTop (mkF m 117 #[.val (.int p1), .val (.long q2), .second, .val (.long q3), .second, .val (.long q4), .second, .val (.long q5), .second, .val (.int (2 : Int32)), .val (.ref b6), .val (.long (((0 : Int64) + q2) + q3)), .second, .val (.long (((0 : Int64) + q2) + q3)), .second, .val (.int (1 : Int32))] [(.int (2 : Int32))])) _
    refine XS.iconst X9.here hx rfl (hb hby at_117) ?_
    show Steps p.tables e below (T9.setTop (mkF m 118 #[.val (.int p1), .val (.long q2), .second, .val (.long q3), .second, .val (.long q4), .second, .val (.long q5), .second, .val (.int (2 : Int32)), .val (.ref b6), .val (.long (((0 : Int64) + q2) + q3)), .second, .val (.long (((0 : Int64) + q2) + q3)), .second, .val (.int (1 : Int32))] [(.int (1 : Int32)), (.int (2 : Int32))])) _
    refine XS.icmpNo X9.here hx rfl (hb hby at_118) rfl (tlt hc118).2.2.2 ?_
    show Steps p.tables e below (T9.setTop (mkF m 121 #[.val (.int p1), .val (.long q2), .second, .val (.long q3), .second, .val (.long q4), .second, .val (.long q5), .second, .val (.int (2 : Int32)), .val (.ref b6), .val (.long (((0 : Int64) + q2) + q3)), .second, .val (.long (((0 : Int64) + q2) + q3)), .second, .val (.int (1 : Int32))] [])) _
    refine XS.aload X9.here hx rfl (hb hby at_121) rfl rfl ?_
    show Steps p.tables e below (T9.setTop (mkF m 123 #[.val (.int p1), .val (.long q2), .second, .val (.long q3), .second, .val (.long q4), .second, .val (.long q5), .second, .val (.int (2 : Int32)), .val (.ref b6), .val (.long (((0 : Int64) + q2) + q3)), .second, .val (.long (((0 : Int64) + q2) + q3)), .second, .val (.int (1 : Int32))] [(.ref b6)])) _
    refine XS.iconst X9.here hx rfl (hb hby at_123) ?_
    show Steps p.tables e below (T9.setTop (mkF m 124 #[.val (.int p1), .val (.long q2), .second, .val (.long q3), .second, .val (.long q4), .second, .val (.long q5), .second, .val (.int (2 : Int32)), .val (.ref b6), .val (.long (((0 : Int64) + q2) + q3)), .second, .val (.long (((0 : Int64) + q2) + q3)), .second, .val (.int (1 : Int32))] [(.int (1 : Int32)), (.ref b6)])) _
    refine X9.laload hx (j := (1 : Int32)) (v := (.long q3)) (by exact Ar_b6.1) (State.isArrayOf_alike hZ.alike Ar_b6.2.1) Ar_b6.2.2 hin124 hat124 (g := (mkF m 124 #[.val (.int p1), .val (.long q2), .second, .val (.long q3), .second, .val (.long q4), .second, .val (.long q5), .second, .val (.int (2 : Int32)), .val (.ref b6), .val (.long (((0 : Int64) + q2) + q3)), .second, .val (.long (((0 : Int64) + q2) + q3)), .second, .val (.int (1 : Int32))] [(.int (1 : Int32)), (.ref b6)])) rfl rfl (hb hby at_124) _ ?_
    show Steps p.tables e below (T9.setTop (mkF m 125 #[.val (.int p1), .val (.long q2), .second, .val (.long q3), .second, .val (.long q4), .second, .val (.long q5), .second, .val (.int (2 : Int32)), .val (.ref b6), .val (.long (((0 : Int64) + q2) + q3)), .second, .val (.long (((0 : Int64) + q2) + q3)), .second, .val (.int (1 : Int32))] [(.long q3)])) _
    refine XS.lloadN X9.here hx rfl (hb hby at_125) rfl ?_
    show Steps p.tables e below (T9.setTop (mkF m 126 #[.val (.int p1), .val (.long q2), .second, .val (.long q3), .second, .val (.long q4), .second, .val (.long q5), .second, .val (.int (2 : Int32)), .val (.ref b6), .val (.long (((0 : Int64) + q2) + q3)), .second, .val (.long (((0 : Int64) + q2) + q3)), .second, .val (.int (1 : Int32))] [(.long q3), (.long q3)])) _
    refine XS.lcmp X9.here hx rfl (hb hby at_126) rfl ?_
    show Steps p.tables e below (T9.setTop (mkF m 127 #[.val (.int p1), .val (.long q2), .second, .val (.long q3), .second, .val (.long q4), .second, .val (.long q5), .second, .val (.int (2 : Int32)), .val (.ref b6), .val (.long (((0 : Int64) + q2) + q3)), .second, .val (.long (((0 : Int64) + q2) + q3)), .second, .val (.int (1 : Int32))] [(.int (lcmpW q3 q3))])) _
    refine XS.ifYes X9.here hx rfl (pc0 := 127) (pc' := 133) rfl (hb hby at_127) rfl ((if0 _ _).trans (teq hc127).1) (by decide) (by decide) ?_
    show Steps p.tables e below (T9.setTop (mkF m 133 #[.val (.int p1), .val (.long q2), .second, .val (.long q3), .second, .val (.long q4), .second, .val (.long q5), .second, .val (.int (2 : Int32)), .val (.ref b6), .val (.long (((0 : Int64) + q2) + q3)), .second, .val (.long (((0 : Int64) + q2) + q3)), .second, .val (.int (1 : Int32))] [])) _
    refine XS.iload X9.here hx rfl (hb hby at_133) rfl ?_
    show Steps p.tables e below (T9.setTop (mkF m 135 #[.val (.int p1), .val (.long q2), .second, .val (.long q3), .second, .val (.long q4), .second, .val (.long q5), .second, .val (.int (2 : Int32)), .val (.ref b6), .val (.long (((0 : Int64) + q2) + q3)), .second, .val (.long (((0 : Int64) + q2) + q3)), .second, .val (.int (1 : Int32))] [(.int (2 : Int32))])) _
    refine XS.iconst X9.here hx rfl (hb hby at_135) ?_
    show Steps p.tables e below (T9.setTop (mkF m 136 #[.val (.int p1), .val (.long q2), .second, .val (.long q3), .second, .val (.long q4), .second, .val (.long q5), .second, .val (.int (2 : Int32)), .val (.ref b6), .val (.long (((0 : Int64) + q2) + q3)), .second, .val (.long (((0 : Int64) + q2) + q3)), .second, .val (.int (1 : Int32))] [(.int (2 : Int32)), (.int (2 : Int32))])) _
    refine XS.icmpYes X9.here hx rfl (pc0 := 136) (pc' := 152) rfl (hb hby at_136) rfl (flt hc136).2.2.2 (by decide) (by decide) ?_
    show Steps p.tables e below (T9.setTop (mkF m 152 #[.val (.int p1), .val (.long q2), .second, .val (.long q3), .second, .val (.long q4), .second, .val (.long q5), .second, .val (.int (2 : Int32)), .val (.ref b6), .val (.long (((0 : Int64) + q2) + q3)), .second, .val (.long (((0 : Int64) + q2) + q3)), .second, .val (.int (1 : Int32))] [])) _
    refine XS.iload X9.here hx rfl (hb hby at_152) rfl ?_
    show Steps p.tables e below (T9.setTop (mkF m 154 #[.val (.int p1), .val (.long q2), .second, .val (.long q3), .second, .val (.long q4), .second, .val (.long q5), .second, .val (.int (2 : Int32)), .val (.ref b6), .val (.long (((0 : Int64) + q2) + q3)), .second, .val (.long (((0 : Int64) + q2) + q3)), .second, .val (.int (1 : Int32))] [(.int (2 : Int32))])) _
    refine XS.iconst X9.here hx rfl (hb hby at_154) ?_
    show Steps p.tables e below (T9.setTop (mkF m 155 #[.val (.int p1), .val (.long q2), .second, .val (.long q3), .second, .val (.long q4), .second, .val (.long q5), .second, .val (.int (2 : Int32)), .val (.ref b6), .val (.long (((0 : Int64) + q2) + q3)), .second, .val (.long (((0 : Int64) + q2) + q3)), .second, .val (.int (1 : Int32))] [(.int (3 : Int32)), (.int (2 : Int32))])) _
    refine XS.icmpYes X9.here hx rfl (pc0 := 155) (pc' := 171) rfl (hb hby at_155) rfl (flt hc155).2.2.2 (by decide) (by decide) ?_
    show Steps p.tables e below (T9.setTop (mkF m 171 #[.val (.int p1), .val (.long q2), .second, .val (.long q3), .second, .val (.long q4), .second, .val (.long q5), .second, .val (.int (2 : Int32)), .val (.ref b6), .val (.long (((0 : Int64) + q2) + q3)), .second, .val (.long (((0 : Int64) + q2) + q3)), .second, .val (.int (1 : Int32))] [])) _
    refine XS.lload X9.here hx rfl (hb hby at_171) rfl ?_
    show Steps p.tables e below (T9.setTop (mkF m 173 #[.val (.int p1), .val (.long q2), .second, .val (.long q3), .second, .val (.long q4), .second, .val (.long q5), .second, .val (.int (2 : Int32)), .val (.ref b6), .val (.long (((0 : Int64) + q2) + q3)), .second, .val (.long (((0 : Int64) + q2) + q3)), .second, .val (.int (1 : Int32))] [(.long (((0 : Int64) + q2) + q3))])) _
    refine XS.lload X9.here hx rfl (hb hby at_173) rfl ?_
    show Steps p.tables e below (T9.setTop (mkF m 175 #[.val (.int p1), .val (.long q2), .second, .val (.long q3), .second, .val (.long q4), .second, .val (.long q5), .second, .val (.int (2 : Int32)), .val (.ref b6), .val (.long (((0 : Int64) + q2) + q3)), .second, .val (.long (((0 : Int64) + q2) + q3)), .second, .val (.int (1 : Int32))] [(.long (((0 : Int64) + q2) + q3)), (.long (((0 : Int64) + q2) + q3))])) _
    refine XS.lcmp X9.here hx rfl (hb hby at_175) rfl ?_
    show Steps p.tables e below (T9.setTop (mkF m 176 #[.val (.int p1), .val (.long q2), .second, .val (.long q3), .second, .val (.long q4), .second, .val (.long q5), .second, .val (.int (2 : Int32)), .val (.ref b6), .val (.long (((0 : Int64) + q2) + q3)), .second, .val (.long (((0 : Int64) + q2) + q3)), .second, .val (.int (1 : Int32))] [(.int (lcmpW (((0 : Int64) + q2) + q3) (((0 : Int64) + q2) + q3)))])) _
    refine XS.ifNo X9.here hx rfl (hb hby at_176) rfl ((if0 _ _).trans (teq ((lw_eq _ _).2 rfl : (lcmpW (((0 : Int64) + q2) + q3) (((0 : Int64) + q2) + q3)) = (0 : Int32))).2) ?_
    show Steps p.tables e below (T9.setTop (mkF m 179 #[.val (.int p1), .val (.long q2), .second, .val (.long q3), .second, .val (.long q4), .second, .val (.long q5), .second, .val (.int (2 : Int32)), .val (.ref b6), .val (.long (((0 : Int64) + q2) + q3)), .second, .val (.long (((0 : Int64) + q2) + q3)), .second, .val (.int (1 : Int32))] [])) _
    refine XS.iload X9.here hx rfl (hb hby at_179) rfl ?_
    show Steps p.tables e below (T9.setTop (mkF m 181 #[.val (.int p1), .val (.long q2), .second, .val (.long q3), .second, .val (.long q4), .second, .val (.long q5), .second, .val (.int (2 : Int32)), .val (.ref b6), .val (.long (((0 : Int64) + q2) + q3)), .second, .val (.long (((0 : Int64) + q2) + q3)), .second, .val (.int (1 : Int32))] [(.int (1 : Int32))])) _
    refine XS.ifNo X9.here hx rfl (hb hby at_181) rfl ((if0 _ _).trans (feq hc181).1) ?_
    show Steps p.tables e below (T9.setTop (mkF m 184 #[.val (.int p1), .val (.long q2), .second, .val (.long q3), .second, .val (.long q4), .second, .val (.long q5), .second, .val (.int (2 : Int32)), .val (.ref b6), .val (.long (((0 : Int64) + q2) + q3)), .second, .val (.long (((0 : Int64) + q2) + q3)), .second, .val (.int (1 : Int32))] [])) _
    refine XS.iconst X9.here hx rfl (hb hby at_184) ?_
    show Steps p.tables e below (T9.setTop (mkF m 185 #[.val (.int p1), .val (.long q2), .second, .val (.long q3), .second, .val (.long q4), .second, .val (.long q5), .second, .val (.int (2 : Int32)), .val (.ref b6), .val (.long (((0 : Int64) + q2) + q3)), .second, .val (.long (((0 : Int64) + q2) + q3)), .second, .val (.int (1 : Int32))] [(.int (1 : Int32))])) _
    refine XS.goto X9.here hx rfl (pc0 := 185) (pc' := 189) rfl (hb hby at_185) (by decide) (by decide) ?_
    show Steps p.tables e below (T9.setTop (mkF m 189 #[.val (.int p1), .val (.long q2), .second, .val (.long q3), .second, .val (.long q4), .second, .val (.long q5), .second, .val (.int (2 : Int32)), .val (.ref b6), .val (.long (((0 : Int64) + q2) + q3)), .second, .val (.long (((0 : Int64) + q2) + q3)), .second, .val (.int (1 : Int32))] [(.int (1 : Int32))])) _
    exact retN X9 hx (t := .boolean) Bd.returns (by simp) (hb hby at_189) hr
  · show Q0 Z p1 q2 q3 q4 q5 h0 n0 _ T9.heap _
    exact ⟨rfl, N9⟩
set_option maxRecDepth 65536 in
set_option maxHeartbeats 40000000 in
theorem rm0_3 (l : Launch) (Z : State) (a0 : Array Value) (hw : ∀ d ∈ tables_1, d.before a0 Z = true) (ws : List Jvm.Cond) (p1 : Int32) (q2 : Int64) (q3 : Int64) (q4 : Int64) (q5 : Int64) (h0 : Heap) (n0 : Nat) (Z0 : n0 ≤ h0.size) (hk : ((p1 &&& (2147483647 : Int32)) % (5 : Int32)) = (3 : Int32)) (hc19 : (0 : Int32) < (3 : Int32)) (hc36 : (1 : Int32) < (3 : Int32)) (hc53 : (2 : Int32) < (3 : Int32)) (hc72 : ¬ ((3 : Int32) < (3 : Int32))) (hc100 : (0 : Int32) < (3 : Int32)) (hc109 : (lcmpW q2 q2) = (0 : Int32)) (hc118 : (1 : Int32) < (3 : Int32)) (hc127 : (lcmpW q3 q3) = (0 : Int32)) (hc136 : (2 : Int32) < (3 : Int32)) (hc146 : (lcmpW q4 q4) = (0 : Int32)) (hc155 : ¬ ((3 : Int32) < (3 : Int32))) (hc181 : ¬ ((1 : Int32) = (0 : Int32))) :
    MetFree l x (head1 (Jvm.Cond.code x code maxLocals ret :: ws) room_1) (fun a U => a = #[(.int p1), (.long q2), (.long q3), (.long q4), (.long q5)] ∧ Z.Warmed39 U.vm ∧ U.heap = h0) (fun _ _ _ _ _ => True) (fun _ U o U' => ∃ v L, o = .returned v ∧ Q0 Z p1 q2 q3 q4 q5 h0 n0 v U'.heap L ∧ FrameEnd U o U' L room_1.cells room_1.slots) := by
  refine MetFree.of_bodySF (plainFor_of_name pn_0) hisR ?_
  intro p e s m args below meth c s₁ Bd hml0 hP hK
  obtain ⟨rfl, hZ, hh⟩ := hP
  have hx := Bd.exec
  have hby := Bd.bytes
  have hml : c.maxLocals = 16 := hml0
  have hown : s.vm.findClass "com/example/turnstile/turnstile/lab/WorkersSumPinLaw" = some m.cls := findClass_of_methodNamed Bd.named
  have hnm := (name_of_methodNamed Bd.named Bd.method).1
  have X0 : Stand p l e room_1 s m #[(.int p1), (.long q2), (.long q3), (.long q4), (.long q5)] below meth c s₁ [] 0 0 := Stand.of_body Bd
  have e0 : s₁.heap = h0 := by rw [← hh, Bd.state]; rfl
  have N0 := Fr.nil n0
  have pre0 : ∀ t, Steps p.tables e below (s₁.setTop (mkF m 0 #[.val (.int p1), .val (.long q2), .second, .val (.long q3), .second, .val (.long q4), .second, .val (.long q5), .second, .unset, .unset, .unset, .unset, .unset, .unset, .unset] [])) t → Steps p.tables e below (s₁.setTop (entryFrame m #[(.int p1), (.long q2), (.long q3), (.long q4), (.long q5)] maxLocals)) t := fun t k => castTop (ef_0 m p1 q2 q3 q4 q5) k
  obtain ⟨T6, h6, k6, X6, e6, E6, A6, st6⟩ := newP X0 hx hZ (hw _ (List.mem_of_getElem? (i := 1) rfl)) e0 (g := (mkF m 10 #[.val (.int p1), .val (.long q2), .second, .val (.long q3), .second, .val (.long q4), .second, .val (.long q5), .second, .val (.int (3 : Int32)), .unset, .unset, .unset, .unset, .unset, .unset] [(.int (3 : Int32))])) rfl (hb hby at_10) rfl (by decide) (cap := 3) (by decide) (by decide) (by decide) (by decide)
  obtain ⟨b6, g6⟩ : ∃ z, z = h0.size := ⟨_, rfl⟩
  rw [← g6] at A6 st6
  have V_b6 : Arv Z h6 b6 k6 .long (3 : Int32) [(.long (0 : Int64)), (.long (0 : Int64)), (.long (0 : Int64))] (.long (0 : Int64)) := (Arv.new A6 (by decide)).pad (pad_rep [] (.long (0 : Int64)) 3)
  have g_b6 : n0 ≤ b6 := Nat.le_trans Z0 (Nat.le_of_eq g6.symm)
  have sz_b6 : h0.size ≤ b6 := (Nat.le_trans (Keep.refl h0 []).1 (Nat.le_of_eq g6.symm))
  have K6 : Keep h0 h6 [] := (Keep.refl h0 []).ext E6
  obtain ⟨cl_b6_26, Ar_b6, q_b6, S_b6, N_b6, H_b6, G_b6⟩ := V_b6
  have hin26 : ¬ ((0 : Int32) < 0 ∨ cl_b6_26.slots.size ≤ ((0 : Int32)).toNatClampNeg) := inb_of S_b6 ⟨by decide, by decide⟩
  obtain ⟨T7, h7, X7, e7, W7, st7⟩ := stJ X6 hx hZ e6 Ar_b6 (j := (0 : Int32)) hin26 (g := (mkF m 26 #[.val (.int p1), .val (.long q2), .second, .val (.long q3), .second, .val (.long q4), .second, .val (.long q5), .second, .val (.int (3 : Int32)), .val (.ref b6), .val (.long (0 : Int64)), .second, .unset, .unset, .unset] [(.long q2), (.int (0 : Int32)), (.ref b6)])) rfl rfl (hb hby at_26)
  have V_b6_7 := Arv.set Ar_b6 q_b6 S_b6 N_b6 H_b6 G_b6 rfl W7 0 rfl (Nat.le_of_ble_eq_true rfl)
  have K7 : Keep h0 h7 [] := K6.wr W7 (Or.inr sz_b6)
  have N7 := Fr.snoc X7 N0 g_b6
  obtain ⟨cl_b6_43, Ar_b6, q_b6, S_b6, N_b6, H_b6, G_b6⟩ := V_b6_7
  have hin43 : ¬ ((1 : Int32) < 0 ∨ cl_b6_43.slots.size ≤ ((1 : Int32)).toNatClampNeg) := inb_of S_b6 ⟨by decide, by decide⟩
  obtain ⟨T8, h8, X8, e8, W8, st8⟩ := stJ X7 hx hZ e7 Ar_b6 (j := (1 : Int32)) hin43 (g := (mkF m 43 #[.val (.int p1), .val (.long q2), .second, .val (.long q3), .second, .val (.long q4), .second, .val (.long q5), .second, .val (.int (3 : Int32)), .val (.ref b6), .val (.long ((0 : Int64) + q2)), .second, .unset, .unset, .unset] [(.long q3), (.int (1 : Int32)), (.ref b6)])) rfl rfl (hb hby at_43)
  have V_b6_8 := Arv.set Ar_b6 q_b6 S_b6 N_b6 H_b6 G_b6 rfl W8 1 rfl (Nat.le_of_ble_eq_true rfl)
  have K8 : Keep h0 h8 [] := K7.wr W8 (Or.inr sz_b6)
  have N8 := Fr.snoc X8 N7 g_b6
  obtain ⟨cl_b6_61, Ar_b6, q_b6, S_b6, N_b6, H_b6, G_b6⟩ := V_b6_8
  have hin61 : ¬ ((2 : Int32) < 0 ∨ cl_b6_61.slots.size ≤ ((2 : Int32)).toNatClampNeg) := inb_of S_b6 ⟨by decide, by decide⟩
  obtain ⟨T9, h9, X9, e9, W9, st9⟩ := stJ X8 hx hZ e8 Ar_b6 (j := (2 : Int32)) hin61 (g := (mkF m 61 #[.val (.int p1), .val (.long q2), .second, .val (.long q3), .second, .val (.long q4), .second, .val (.long q5), .second, .val (.int (3 : Int32)), .val (.ref b6), .val (.long (((0 : Int64) + q2) + q3)), .second, .unset, .unset, .unset] [(.long q4), (.int (2 : Int32)), (.ref b6)])) rfl rfl (hb hby at_61)
  have V_b6_9 := Arv.set Ar_b6 q_b6 S_b6 N_b6 H_b6 G_b6 rfl W9 2 rfl (Nat.le_of_ble_eq_true rfl)
  have K9 : Keep h0 h9 [] := K8.wr W9 (Or.inr sz_b6)
  have N9 := Fr.snoc X9 N8 g_b6
  obtain ⟨_, _, ⟨T10, L10, k10, n10⟩, -, X10, ⟨Lc10, hQ10, l10, y10, z10⟩, st10⟩ := Jvm.LawKit.callS X9 hx (y := (⟨"com/example/turnstile/turnstile/lab/Workers", "sum", "([J)J"⟩ : MethodName)) hown (mvT hZ (hw _ (List.mem_of_getElem? (i := 2) rfl))) (mvT hZ (hw _ (List.mem_of_getElem? (i := 3) rfl))) (mvT hZ (hw _ (List.mem_of_getElem? (i := 4) rfl))) (mvT hZ (hw _ (List.mem_of_getElem? (i := 5) rfl))) (by decide) (backOf (W := 0) (rm1 l Z a0 hw [] b6 _ k6 (fun j => [q2, q3, q4].getD j 0) 3 (by decide) h9 n0 (Nat.le_trans Z0 K9.1) V_b6_9 (fun j hj => match j, hj with | 0, _ => rfl | 1, _ => rfl | 2, _ => rfl)) hZ (hw _ (List.mem_of_getElem? (i := 5) rfl)) (hw _ (List.mem_of_getElem? (i := 4) rfl)) (by decide) (by decide)) (g := (mkF m 90 #[.val (.int p1), .val (.long q2), .second, .val (.long q3), .second, .val (.long q4), .second, .val (.long q5), .second, .val (.int (3 : Int32)), .val (.ref b6), .val (.long ((((0 : Int64) + q2) + q3) + q4)), .second, .unset, .unset, .unset] [(.ref b6)])) rfl (by rw [hml]; rfl) (argsL := [(.ref b6)]) (rest := []) (lenOf pd_0_0 rfl) rfl (by show 2 * 0 + _ ≤ _; exact Nat.le_of_eq rfl) (hb hby at_90) (fun _ _ => ⟨rfl, e9, (by decide : 1 + 0 ≤ _), (by decide : 3 + 0 ≤ _)⟩)
  dsimp only [Pt.U, Pt.locs, Pt.cells, Pt.slots] at X10 l10 y10 z10 st10 hQ10
  subst l10 y10 z10
  obtain ⟨rfl, N10q, eq10⟩ := hQ10
  have N10 := Fr.app N9 N10q
  have Zc10 : n0 ≤ T10.heap.size := by rw [eq10]; exact (Nat.le_trans Z0 K9.1)
  obtain ⟨clB, ArB, -, SzB, NnB, HhB, -⟩ := V_b6_9
  have Ar_b6 : Arr Z T10.heap b6 clB .long := by rw [eq10]; exact ArB
  have hin106 : ¬ ((0 : Int32) < 0 ∨ clB.slots.size ≤ ((0 : Int32)).toNatClampNeg) := inb_of SzB ⟨by decide, by decide⟩
  have hat106 : clB.slots[((0 : Int32)).toNatClampNeg]? = some (.long q2) := by rw [show ((0 : Int32)).toNatClampNeg = 0 from by decide]; exact HhB 0 (by rw [SzB]; decide)
  have hin124 : ¬ ((1 : Int32) < 0 ∨ clB.slots.size ≤ ((1 : Int32)).toNatClampNeg) := inb_of SzB ⟨by decide, by decide⟩
  have hat124 : clB.slots[((1 : Int32)).toNatClampNeg]? = some (.long q3) := by rw [show ((1 : Int32)).toNatClampNeg = 1 from by decide]; exact HhB 1 (by rw [SzB]; decide)
  have hin142 : ¬ ((2 : Int32) < 0 ∨ clB.slots.size ≤ ((2 : Int32)).toNatClampNeg) := inb_of SzB ⟨by decide, by decide⟩
  have hat142 : clB.slots[((2 : Int32)).toNatClampNeg]? = some (.long q4) := by rw [show ((2 : Int32)).toNatClampNeg = 2 from by decide]; exact HhB 2 (by rw [SzB]; decide)
  obtain ⟨fs, hr, hrun, hended, hW, hsame⟩ := X10.leave (v := some (.int (1 : Int32))) (fun h => by rw [Bd.returns] at h; cases h)
  refine ⟨_, _, pre0 _ ?_, hrun, hended, _, _, rfl, ?_, ⟨_, rfl⟩, hW, hsame.mono (by decide) (by decide)⟩
  · show Steps p.tables e below (s₁.setTop (mkF m 0 #[.val (.int p1), .val (.long q2), .second, .val (.long q3), .second, .val (.long q4), .second, .val (.long q5), .second, .unset, .unset, .unset, .unset, .unset, .unset, .unset] [])) _
    refine XS.iloadN X0.here hx rfl (hb hby at_0) rfl ?_
    show Steps p.tables e below (s₁.setTop (mkF m 1 #[.val (.int p1), .val (.long q2), .second, .val (.long q3), .second, .val (.long q4), .second, .val (.long q5), .second, .unset, .unset, .unset, .unset, .unset, .unset, .unset] [(.int p1)])) _
    refine X0.ldcInt hx hown (mvT hZ (hw _ (List.mem_of_getElem? (i := 0) rfl))) (g := (mkF m 1 #[.val (.int p1), .val (.long q2), .second, .val (.long q3), .second, .val (.long q4), .second, .val (.long q5), .second, .unset, .unset, .unset, .unset, .unset, .unset, .unset] [(.int p1)])) rfl (hb hby at_1) _ ?_
    show Steps p.tables e below (s₁.setTop (mkF m 3 #[.val (.int p1), .val (.long q2), .second, .val (.long q3), .second, .val (.long q4), .second, .val (.long q5), .second, .unset, .unset, .unset, .unset, .unset, .unset, .unset] [(.int (2147483647 : Int32)), (.int p1)])) _
    refine XS.iand X0.here hx rfl (hb hby at_3) rfl ?_
    show Steps p.tables e below (s₁.setTop (mkF m 4 #[.val (.int p1), .val (.long q2), .second, .val (.long q3), .second, .val (.long q4), .second, .val (.long q5), .second, .unset, .unset, .unset, .unset, .unset, .unset, .unset] [(.int (p1 &&& (2147483647 : Int32)))])) _
    refine XS.iconst X0.here hx rfl (hb hby at_4) ?_
    show Steps p.tables e below (s₁.setTop (mkF m 5 #[.val (.int p1), .val (.long q2), .second, .val (.long q3), .second, .val (.long q4), .second, .val (.long q5), .second, .unset, .unset, .unset, .unset, .unset, .unset, .unset] [(.int (5 : Int32)), (.int (p1 &&& (2147483647 : Int32)))])) _
    refine iremM X0 hx rfl (hb hby at_5) rfl (by decide) ?_
    show Steps p.tables e below (s₁.setTop (mkF m 6 #[.val (.int p1), .val (.long q2), .second, .val (.long q3), .second, .val (.long q4), .second, .val (.long q5), .second, .unset, .unset, .unset, .unset, .unset, .unset, .unset] [(.int ((p1 &&& (2147483647 : Int32)) % (5 : Int32)))])) _
    rw [hk]
    show Steps p.tables e below (s₁.setTop (mkF m 6 #[.val (.int p1), .val (.long q2), .second, .val (.long q3), .second, .val (.long q4), .second, .val (.long q5), .second, .unset, .unset, .unset, .unset, .unset, .unset, .unset] [(.int (3 : Int32))])) _
    refine XS.istore X0.here hx rfl (hb hby at_6) rfl (l' := #[.val (.int p1), .val (.long q2), .second, .val (.long q3), .second, .val (.long q4), .second, .val (.long q5), .second, .val (.int (3 : Int32)), .unset, .unset, .unset, .unset, .unset, .unset]) rfl ?_
    show Steps p.tables e below (s₁.setTop (mkF m 8 #[.val (.int p1), .val (.long q2), .second, .val (.long q3), .second, .val (.long q4), .second, .val (.long q5), .second, .val (.int (3 : Int32)), .unset, .unset, .unset, .unset, .unset, .unset] [])) _
    refine XS.iload X0.here hx rfl (hb hby at_8) rfl ?_
    show Steps p.tables e below (s₁.setTop (mkF m 10 #[.val (.int p1), .val (.long q2), .second, .val (.long q3), .second, .val (.long q4), .second, .val (.long q5), .second, .val (.int (3 : Int32)), .unset, .unset, .unset, .unset, .unset, .unset] [(.int (3 : Int32))])) _
    refine st6 _ ?_
    show Steps p.tables e below (T6.setTop (mkF m 12 #[.val (.int p1), .val (.long q2), .second, .val (.long q3), .second, .val (.long q4), .second, .val (.long q5), .second, .val (.int (3 : Int32)), .unset, .unset, .unset, .unset, .unset, .unset] [(.ref b6)])) _
    refine XS.astore X6.here hx rfl (hb hby at_12) rfl rfl (l' := #[.val (.int p1), .val (.long q2), .second, .val (.long q3), .second, .val (.long q4), .second, .val (.long q5), .second, .val (.int (3 : Int32)), .val (.ref b6), .unset, .unset, .unset, .unset, .unset]) rfl ?_
    show Steps p.tables e below (T6.setTop (mkF m 14 #[.val (.int p1), .val (.long q2), .second, .val (.long q3), .second, .val (.long q4), .second, .val (.long q5), .second, .val (.int (3 : Int32)), .val (.ref b6), .unset, .unset, .unset, .unset, .unset] [])) _
    refine XS.lconst X6.here hx rfl (hb hby at_14) ?_
    show Steps p.tables e below (T6.setTop (mkF m 15 #[.val (.int p1), .val (.long q2), .second, .val (.long q3), .second, .val (.long q4), .second, .val (.long q5), .second, .val (.int (3 : Int32)), .val (.ref b6), .unset, .unset, .unset, .unset, .unset] [(.long (0 : Int64))])) _
    refine XS.lstore X6.here hx rfl (hb hby at_15) rfl (l' := #[.val (.int p1), .val (.long q2), .second, .val (.long q3), .second, .val (.long q4), .second, .val (.long q5), .second, .val (.int (3 : Int32)), .val (.ref b6), .val (.long (0 : Int64)), .second, .unset, .unset, .unset]) rfl ?_
    show Steps p.tables e below (T6.setTop (mkF m 17 #[.val (.int p1), .val (.long q2), .second, .val (.long q3), .second, .val (.long q4), .second, .val (.long q5), .second, .val (.int (3 : Int32)), .val (.ref b6), .val (.long (0 : Int64)), .second, .unset, .unset, .unset] [])) _
    refine XS.iload X6.here hx rfl (hb hby at_17) rfl ?_
    show Steps p.tables e below (T6.setTop (mkF m 19 #[.val (.int p1), .val (.long q2), .second, .val (.long q3), .second, .val (.long q4), .second, .val (.long q5), .second, .val (.int (3 : Int32)), .val (.ref b6), .val (.long (0 : Int64)), .second, .unset, .unset, .unset] [(.int (3 : Int32))])) _
    refine XS.ifNo X6.here hx rfl (hb hby at_19) rfl ((if0 _ _).trans (tlt hc19).2.2.2) ?_
    show Steps p.tables e below (T6.setTop (mkF m 22 #[.val (.int p1), .val (.long q2), .second, .val (.long q3), .second, .val (.long q4), .second, .val (.long q5), .second, .val (.int (3 : Int32)), .val (.ref b6), .val (.long (0 : Int64)), .second, .unset, .unset, .unset] [])) _
    refine XS.aload X6.here hx rfl (hb hby at_22) rfl rfl ?_
    show Steps p.tables e below (T6.setTop (mkF m 24 #[.val (.int p1), .val (.long q2), .second, .val (.long q3), .second, .val (.long q4), .second, .val (.long q5), .second, .val (.int (3 : Int32)), .val (.ref b6), .val (.long (0 : Int64)), .second, .unset, .unset, .unset] [(.ref b6)])) _
    refine XS.iconst X6.here hx rfl (hb hby at_24) ?_
    show Steps p.tables e below (T6.setTop (mkF m 25 #[.val (.int p1), .val (.long q2), .second, .val (.long q3), .second, .val (.long q4), .second, .val (.long q5), .second, .val (.int (3 : Int32)), .val (.ref b6), .val (.long (0 : Int64)), .second, .unset, .unset, .unset] [(.int (0 : Int32)), (.ref b6)])) _
    refine XS.lloadN X6.here hx rfl (hb hby at_25) rfl ?_
    show Steps p.tables e below (T6.setTop (mkF m 26 #[.val (.int p1), .val (.long q2), .second, .val (.long q3), .second, .val (.long q4), .second, .val (.long q5), .second, .val (.int (3 : Int32)), .val (.ref b6), .val (.long (0 : Int64)), .second, .unset, .unset, .unset] [(.long q2), (.int (0 : Int32)), (.ref b6)])) _
    refine st7 _ ?_
    show Steps p.tables e below (T7.setTop (mkF m 27 #[.val (.int p1), .val (.long q2), .second, .val (.long q3), .second, .val (.long q4), .second, .val (.long q5), .second, .val (.int (3 : Int32)), .val (.ref b6), .val (.long (0 : Int64)), .second, .unset, .unset, .unset] [])) _
    refine XS.lload X7.here hx rfl (hb hby at_27) rfl ?_
    show Steps p.tables e below (T7.setTop (mkF m 29 #[.val (.int p1), .val (.long q2), .second, .val (.long q3), .second, .val (.long q4), .second, .val (.long q5), .second, .val (.int (3 : Int32)), .val (.ref b6), .val (.long (0 : Int64)), .second, .unset, .unset, .unset] [(.long (0 : Int64))])) _
    refine XS.lloadN X7.here hx rfl (hb hby at_29) rfl ?_
    show Steps p.tables e below (T7.setTop (mkF m 30 #[.val (.int p1), .val (.long q2), .second, .val (.long q3), .second, .val (.long q4), .second, .val (.long q5), .second, .val (.int (3 : Int32)), .val (.ref b6), .val (.long (0 : Int64)), .second, .unset, .unset, .unset] [(.long q2), (.long (0 : Int64))])) _
    refine XS.ladd X7.here hx rfl (hb hby at_30) rfl ?_
    show Steps p.tables e below (T7.setTop (mkF m 31 #[.val (.int p1), .val (.long q2), .second, .val (.long q3), .second, .val (.long q4), .second, .val (.long q5), .second, .val (.int (3 : Int32)), .val (.ref b6), .val (.long (0 : Int64)), .second, .unset, .unset, .unset] [(.long ((0 : Int64) + q2))])) _
    refine XS.lstore X7.here hx rfl (hb hby at_31) rfl (l' := #[.val (.int p1), .val (.long q2), .second, .val (.long q3), .second, .val (.long q4), .second, .val (.long q5), .second, .val (.int (3 : Int32)), .val (.ref b6), .val (.long ((0 : Int64) + q2)), .second, .unset, .unset, .unset]) rfl ?_
    show Steps p.tables e below (T7.setTop (mkF m 33 #[.val (.int p1), .val (.long q2), .second, .val (.long q3), .second, .val (.long q4), .second, .val (.long q5), .second, .val (.int (3 : Int32)), .val (.ref b6), .val (.long ((0 : Int64) + q2)), .second, .unset, .unset, .unset] [])) _
    refine XS.iload X7.here hx rfl (hb hby at_33) rfl ?_
    show Steps p.tables e below (T7.setTop (mkF m 35 #[.val (.int p1), .val (.long q2), .second, .val (.long q3), .second, .val (.long q4), .second, .val (.long q5), .second, .val (.int (3 : Int32)), .val (.ref b6), .val (.long ((0 : Int64) + q2)), .second, .unset, .unset, .unset] [(.int (3 : Int32))])) _
    refine XS.iconst X7.here hx rfl (hb hby at_35) ?_
    show Steps p.tables e below (T7.setTop (mkF m 36 #[.val (.int p1), .val (.long q2), .second, .val (.long q3), .second, .val (.long q4), .second, .val (.long q5), .second, .val (.int (3 : Int32)), .val (.ref b6), .val (.long ((0 : Int64) + q2)), .second, .unset, .unset, .unset] [(.int (1 : Int32)), (.int (3 : Int32))])) _
    refine XS.icmpNo X7.here hx rfl (hb hby at_36) rfl (tlt hc36).2.2.2 ?_
    show Steps p.tables e below (T7.setTop (mkF m 39 #[.val (.int p1), .val (.long q2), .second, .val (.long q3), .second, .val (.long q4), .second, .val (.long q5), .second, .val (.int (3 : Int32)), .val (.ref b6), .val (.long ((0 : Int64) + q2)), .second, .unset, .unset, .unset] [])) _
    refine XS.aload X7.here hx rfl (hb hby at_39) rfl rfl ?_
    show Steps p.tables e below (T7.setTop (mkF m 41 #[.val (.int p1), .val (.long q2), .second, .val (.long q3), .second, .val (.long q4), .second, .val (.long q5), .second, .val (.int (3 : Int32)), .val (.ref b6), .val (.long ((0 : Int64) + q2)), .second, .unset, .unset, .unset] [(.ref b6)])) _
    refine XS.iconst X7.here hx rfl (hb hby at_41) ?_
    show Steps p.tables e below (T7.setTop (mkF m 42 #[.val (.int p1), .val (.long q2), .second, .val (.long q3), .second, .val (.long q4), .second, .val (.long q5), .second, .val (.int (3 : Int32)), .val (.ref b6), .val (.long ((0 : Int64) + q2)), .second, .unset, .unset, .unset] [(.int (1 : Int32)), (.ref b6)])) _
    refine XS.lloadN X7.here hx rfl (hb hby at_42) rfl ?_
    show Steps p.tables e below (T7.setTop (mkF m 43 #[.val (.int p1), .val (.long q2), .second, .val (.long q3), .second, .val (.long q4), .second, .val (.long q5), .second, .val (.int (3 : Int32)), .val (.ref b6), .val (.long ((0 : Int64) + q2)), .second, .unset, .unset, .unset] [(.long q3), (.int (1 : Int32)), (.ref b6)])) _
    refine st8 _ ?_
    show Steps p.tables e below (T8.setTop (mkF m 44 #[.val (.int p1), .val (.long q2), .second, .val (.long q3), .second, .val (.long q4), .second, .val (.long q5), .second, .val (.int (3 : Int32)), .val (.ref b6), .val (.long ((0 : Int64) + q2)), .second, .unset, .unset, .unset] [])) _
    refine XS.lload X8.here hx rfl (hb hby at_44) rfl ?_
    show Steps p.tables e below (T8.setTop (mkF m 46 #[.val (.int p1), .val (.long q2), .second, .val (.long q3), .second, .val (.long q4), .second, .val (.long q5), .second, .val (.int (3 : Int32)), .val (.ref b6), .val (.long ((0 : Int64) + q2)), .second, .unset, .unset, .unset] [(.long ((0 : Int64) + q2))])) _
    refine XS.lloadN X8.here hx rfl (hb hby at_46) rfl ?_
    show Steps p.tables e below (T8.setTop (mkF m 47 #[.val (.int p1), .val (.long q2), .second, .val (.long q3), .second, .val (.long q4), .second, .val (.long q5), .second, .val (.int (3 : Int32)), .val (.ref b6), .val (.long ((0 : Int64) + q2)), .second, .unset, .unset, .unset] [(.long q3), (.long ((0 : Int64) + q2))])) _
    refine XS.ladd X8.here hx rfl (hb hby at_47) rfl ?_
    show Steps p.tables e below (T8.setTop (mkF m 48 #[.val (.int p1), .val (.long q2), .second, .val (.long q3), .second, .val (.long q4), .second, .val (.long q5), .second, .val (.int (3 : Int32)), .val (.ref b6), .val (.long ((0 : Int64) + q2)), .second, .unset, .unset, .unset] [(.long (((0 : Int64) + q2) + q3))])) _
    refine XS.lstore X8.here hx rfl (hb hby at_48) rfl (l' := #[.val (.int p1), .val (.long q2), .second, .val (.long q3), .second, .val (.long q4), .second, .val (.long q5), .second, .val (.int (3 : Int32)), .val (.ref b6), .val (.long (((0 : Int64) + q2) + q3)), .second, .unset, .unset, .unset]) rfl ?_
    show Steps p.tables e below (T8.setTop (mkF m 50 #[.val (.int p1), .val (.long q2), .second, .val (.long q3), .second, .val (.long q4), .second, .val (.long q5), .second, .val (.int (3 : Int32)), .val (.ref b6), .val (.long (((0 : Int64) + q2) + q3)), .second, .unset, .unset, .unset] [])) _
    refine XS.iload X8.here hx rfl (hb hby at_50) rfl ?_
    show Steps p.tables e below (T8.setTop (mkF m 52 #[.val (.int p1), .val (.long q2), .second, .val (.long q3), .second, .val (.long q4), .second, .val (.long q5), .second, .val (.int (3 : Int32)), .val (.ref b6), .val (.long (((0 : Int64) + q2) + q3)), .second, .unset, .unset, .unset] [(.int (3 : Int32))])) _
    refine XS.iconst X8.here hx rfl (hb hby at_52) ?_
    show Steps p.tables e below (T8.setTop (mkF m 53 #[.val (.int p1), .val (.long q2), .second, .val (.long q3), .second, .val (.long q4), .second, .val (.long q5), .second, .val (.int (3 : Int32)), .val (.ref b6), .val (.long (((0 : Int64) + q2) + q3)), .second, .unset, .unset, .unset] [(.int (2 : Int32)), (.int (3 : Int32))])) _
    refine XS.icmpNo X8.here hx rfl (hb hby at_53) rfl (tlt hc53).2.2.2 ?_
    show Steps p.tables e below (T8.setTop (mkF m 56 #[.val (.int p1), .val (.long q2), .second, .val (.long q3), .second, .val (.long q4), .second, .val (.long q5), .second, .val (.int (3 : Int32)), .val (.ref b6), .val (.long (((0 : Int64) + q2) + q3)), .second, .unset, .unset, .unset] [])) _
    refine XS.aload X8.here hx rfl (hb hby at_56) rfl rfl ?_
    show Steps p.tables e below (T8.setTop (mkF m 58 #[.val (.int p1), .val (.long q2), .second, .val (.long q3), .second, .val (.long q4), .second, .val (.long q5), .second, .val (.int (3 : Int32)), .val (.ref b6), .val (.long (((0 : Int64) + q2) + q3)), .second, .unset, .unset, .unset] [(.ref b6)])) _
    refine XS.iconst X8.here hx rfl (hb hby at_58) ?_
    show Steps p.tables e below (T8.setTop (mkF m 59 #[.val (.int p1), .val (.long q2), .second, .val (.long q3), .second, .val (.long q4), .second, .val (.long q5), .second, .val (.int (3 : Int32)), .val (.ref b6), .val (.long (((0 : Int64) + q2) + q3)), .second, .unset, .unset, .unset] [(.int (2 : Int32)), (.ref b6)])) _
    refine XS.lload X8.here hx rfl (hb hby at_59) rfl ?_
    show Steps p.tables e below (T8.setTop (mkF m 61 #[.val (.int p1), .val (.long q2), .second, .val (.long q3), .second, .val (.long q4), .second, .val (.long q5), .second, .val (.int (3 : Int32)), .val (.ref b6), .val (.long (((0 : Int64) + q2) + q3)), .second, .unset, .unset, .unset] [(.long q4), (.int (2 : Int32)), (.ref b6)])) _
    refine st9 _ ?_
    show Steps p.tables e below (T9.setTop (mkF m 62 #[.val (.int p1), .val (.long q2), .second, .val (.long q3), .second, .val (.long q4), .second, .val (.long q5), .second, .val (.int (3 : Int32)), .val (.ref b6), .val (.long (((0 : Int64) + q2) + q3)), .second, .unset, .unset, .unset] [])) _
    refine XS.lload X9.here hx rfl (hb hby at_62) rfl ?_
    show Steps p.tables e below (T9.setTop (mkF m 64 #[.val (.int p1), .val (.long q2), .second, .val (.long q3), .second, .val (.long q4), .second, .val (.long q5), .second, .val (.int (3 : Int32)), .val (.ref b6), .val (.long (((0 : Int64) + q2) + q3)), .second, .unset, .unset, .unset] [(.long (((0 : Int64) + q2) + q3))])) _
    refine XS.lload X9.here hx rfl (hb hby at_64) rfl ?_
    show Steps p.tables e below (T9.setTop (mkF m 66 #[.val (.int p1), .val (.long q2), .second, .val (.long q3), .second, .val (.long q4), .second, .val (.long q5), .second, .val (.int (3 : Int32)), .val (.ref b6), .val (.long (((0 : Int64) + q2) + q3)), .second, .unset, .unset, .unset] [(.long q4), (.long (((0 : Int64) + q2) + q3))])) _
    refine XS.ladd X9.here hx rfl (hb hby at_66) rfl ?_
    show Steps p.tables e below (T9.setTop (mkF m 67 #[.val (.int p1), .val (.long q2), .second, .val (.long q3), .second, .val (.long q4), .second, .val (.long q5), .second, .val (.int (3 : Int32)), .val (.ref b6), .val (.long (((0 : Int64) + q2) + q3)), .second, .unset, .unset, .unset] [(.long ((((0 : Int64) + q2) + q3) + q4))])) _
    refine XS.lstore X9.here hx rfl (hb hby at_67) rfl (l' := #[.val (.int p1), .val (.long q2), .second, .val (.long q3), .second, .val (.long q4), .second, .val (.long q5), .second, .val (.int (3 : Int32)), .val (.ref b6), .val (.long ((((0 : Int64) + q2) + q3) + q4)), .second, .unset, .unset, .unset]) rfl ?_
    show Steps p.tables e below (T9.setTop (mkF m 69 #[.val (.int p1), .val (.long q2), .second, .val (.long q3), .second, .val (.long q4), .second, .val (.long q5), .second, .val (.int (3 : Int32)), .val (.ref b6), .val (.long ((((0 : Int64) + q2) + q3) + q4)), .second, .unset, .unset, .unset] [])) _
    refine XS.iload X9.here hx rfl (hb hby at_69) rfl ?_
    show Steps p.tables e below (T9.setTop (mkF m 71 #[.val (.int p1), .val (.long q2), .second, .val (.long q3), .second, .val (.long q4), .second, .val (.long q5), .second, .val (.int (3 : Int32)), .val (.ref b6), .val (.long ((((0 : Int64) + q2) + q3) + q4)), .second, .unset, .unset, .unset] [(.int (3 : Int32))])) _
    refine XS.iconst X9.here hx rfl (hb hby at_71) ?_
    show Steps p.tables e below (T9.setTop (mkF m 72 #[.val (.int p1), .val (.long q2), .second, .val (.long q3), .second, .val (.long q4), .second, .val (.long q5), .second, .val (.int (3 : Int32)), .val (.ref b6), .val (.long ((((0 : Int64) + q2) + q3) + q4)), .second, .unset, .unset, .unset] [(.int (3 : Int32)), (.int (3 : Int32))])) _
    refine XS.icmpYes X9.here hx rfl (pc0 := 72) (pc' := 88) rfl (hb hby at_72) rfl (flt hc72).2.2.2 (by decide) (by decide) ?_
    show Steps p.tables e below (T9.setTop (mkF m 88 #[.val (.int p1), .val (.long q2), .second, .val (.long q3), .second, .val (.long q4), .second, .val (.long q5), .second, .val (.int (3 : Int32)), .val (.ref b6), .val (.long ((((0 : Int64) + q2) + q3) + q4)), .second, .unset, .unset, .unset] [])) _
    refine XS.aload X9.here hx rfl (hb hby at_88) rfl rfl ?_
    show Steps p.tables e below (T9.setTop (mkF m 90 #[.val (.int p1), .val (.long q2), .second, .val (.long q3), .second, .val (.long q4), .second, .val (.long q5), .second, .val (.int (3 : Int32)), .val (.ref b6), .val (.long ((((0 : Int64) + q2) + q3) + q4)), .second, .unset, .unset, .unset] [(.ref b6)])) _
    refine st10 _ ?_
    show Steps p.tables e below (T10.setTop (mkF m 93 #[.val (.int p1), .val (.long q2), .second, .val (.long q3), .second, .val (.long q4), .second, .val (.long q5), .second, .val (.int (3 : Int32)), .val (.ref b6), .val (.long ((((0 : Int64) + q2) + q3) + q4)), .second, .unset, .unset, .unset] [(.long ((((0 : Int64) + q2) + q3) + q4))])) _
    refine XS.lstore X10.here hx rfl (hb hby at_93) rfl (l' := #[.val (.int p1), .val (.long q2), .second, .val (.long q3), .second, .val (.long q4), .second, .val (.long q5), .second, .val (.int (3 : Int32)), .val (.ref b6), .val (.long ((((0 : Int64) + q2) + q3) + q4)), .second, .val (.long ((((0 : Int64) + q2) + q3) + q4)), .second, .unset]) rfl ?_
    show Steps p.tables e below (T10.setTop (mkF m 95 #[.val (.int p1), .val (.long q2), .second, .val (.long q3), .second, .val (.long q4), .second, .val (.long q5), .second, .val (.int (3 : Int32)), .val (.ref b6), .val (.long ((((0 : Int64) + q2) + q3) + q4)), .second, .val (.long ((((0 : Int64) + q2) + q3) + q4)), .second, .unset] [])) _
    refine XS.iconst X10.here hx rfl (hb hby at_95) ?_
    show Steps p.tables e below (T10.setTop (mkF m 96 #[.val (.int p1), .val (.long q2), .second, .val (.long q3), .second, .val (.long q4), .second, .val (.long q5), .second, .val (.int (3 : Int32)), .val (.ref b6), .val (.long ((((0 : Int64) + q2) + q3) + q4)), .second, .val (.long ((((0 : Int64) + q2) + q3) + q4)), .second, .unset] [(.int (1 : Int32))])) _
    refine XS.istore X10.here hx rfl (hb hby at_96) rfl (l' := #[.val (.int p1), .val (.long q2), .second, .val (.long q3), .second, .val (.long q4), .second, .val (.long q5), .second, .val (.int (3 : Int32)), .val (.ref b6), .val (.long ((((0 : Int64) + q2) + q3) + q4)), .second, .val (.long ((((0 : Int64) + q2) + q3) + q4)), .second, .val (.int (1 : Int32))]) rfl ?_
    show Steps p.tables e below (T10.setTop (mkF m 98 #[.val (.int p1), .val (.long q2), .second, .val (.long q3), .second, .val (.long q4), .second, .val (.long q5), .second, .val (.int (3 : Int32)), .val (.ref b6), .val (.long ((((0 : Int64) + q2) + q3) + q4)), .second, .val (.long ((((0 : Int64) + q2) + q3) + q4)), .second, .val (.int (1 : Int32))] [])) _
    refine XS.iload X10.here hx rfl (hb hby at_98) rfl ?_
    show Steps p.tables e below (T10.setTop (mkF m 100 #[.val (.int p1), .val (.long q2), .second, .val (.long q3), .second, .val (.long q4), .second, .val (.long q5), .second, .val (.int (3 : Int32)), .val (.ref b6), .val (.long ((((0 : Int64) + q2) + q3) + q4)), .second, .val (.long ((((0 : Int64) + q2) + q3) + q4)), .second, .val (.int (1 : Int32))] [(.int (3 : Int32))])) _
    refine XS.ifNo X10.here hx rfl (hb hby at_100) rfl ((if0 _ _).trans (tlt hc100).2.2.2) ?_
    show Steps p.tables e below (T10.setTop (mkF m 103 #[.val (.int p1), .val (.long q2), .second, .val (.long q3), .second, .val (.long q4), .second, .val (.long q5), .second, .val (.int (3 : Int32)), .val (.ref b6), .val (.long ((((0 : Int64) + q2) + q3) + q4)), .second, .val (.long ((((0 : Int64) + q2) + q3) + q4)), .second, .val (.int (1 : Int32))] [])) _
    refine XS.aload X10.here hx rfl (hb hby at_103) rfl rfl ?_
    show Steps p.tables e below (T10.setTop (mkF m 105 #[.val (.int p1), .val (.long q2), .second, .val (.long q3), .second, .val (.long q4), .second, .val (.long q5), .second, .val (.int (3 : Int32)), .val (.ref b6), .val (.long ((((0 : Int64) + q2) + q3) + q4)), .second, .val (.long ((((0 : Int64) + q2) + q3) + q4)), .second, .val (.int (1 : Int32))] [(.ref b6)])) _
    refine XS.iconst X10.here hx rfl (hb hby at_105) ?_
    show Steps p.tables e below (T10.setTop (mkF m 106 #[.val (.int p1), .val (.long q2), .second, .val (.long q3), .second, .val (.long q4), .second, .val (.long q5), .second, .val (.int (3 : Int32)), .val (.ref b6), .val (.long ((((0 : Int64) + q2) + q3) + q4)), .second, .val (.long ((((0 : Int64) + q2) + q3) + q4)), .second, .val (.int (1 : Int32))] [(.int (0 : Int32)), (.ref b6)])) _
    refine X10.laload hx (j := (0 : Int32)) (v := (.long q2)) (by exact Ar_b6.1) (State.isArrayOf_alike hZ.alike Ar_b6.2.1) Ar_b6.2.2 hin106 hat106 (g := (mkF m 106 #[.val (.int p1), .val (.long q2), .second, .val (.long q3), .second, .val (.long q4), .second, .val (.long q5), .second, .val (.int (3 : Int32)), .val (.ref b6), .val (.long ((((0 : Int64) + q2) + q3) + q4)), .second, .val (.long ((((0 : Int64) + q2) + q3) + q4)), .second, .val (.int (1 : Int32))] [(.int (0 : Int32)), (.ref b6)])) rfl rfl (hb hby at_106) _ ?_
    show Steps p.tables e below (T10.setTop (mkF m 107 #[.val (.int p1), .val (.long q2), .second, .val (.long q3), .second, .val (.long q4), .second, .val (.long q5), .second, .val (.int (3 : Int32)), .val (.ref b6), .val (.long ((((0 : Int64) + q2) + q3) + q4)), .second, .val (.long ((((0 : Int64) + q2) + q3) + q4)), .second, .val (.int (1 : Int32))] [(.long q2)])) _
    refine XS.lloadN X10.here hx rfl (hb hby at_107) rfl ?_
    show Steps p.tables e below (T10.setTop (mkF m 108 #[.val (.int p1), .val (.long q2), .second, .val (.long q3), .second, .val (.long q4), .second, .val (.long q5), .second, .val (.int (3 : Int32)), .val (.ref b6), .val (.long ((((0 : Int64) + q2) + q3) + q4)), .second, .val (.long ((((0 : Int64) + q2) + q3) + q4)), .second, .val (.int (1 : Int32))] [(.long q2), (.long q2)])) _
    refine XS.lcmp X10.here hx rfl (hb hby at_108) rfl ?_
    show Steps p.tables e below (T10.setTop (mkF m 109 #[.val (.int p1), .val (.long q2), .second, .val (.long q3), .second, .val (.long q4), .second, .val (.long q5), .second, .val (.int (3 : Int32)), .val (.ref b6), .val (.long ((((0 : Int64) + q2) + q3) + q4)), .second, .val (.long ((((0 : Int64) + q2) + q3) + q4)), .second, .val (.int (1 : Int32))] [(.int (lcmpW q2 q2))])) _
    refine XS.ifYes X10.here hx rfl (pc0 := 109) (pc' := 115) rfl (hb hby at_109) rfl ((if0 _ _).trans (teq hc109).1) (by decide) (by decide) ?_
    show Steps p.tables e below (T10.setTop (mkF m 115 #[.val (.int p1), .val (.long q2), .second, .val (.long q3), .second, .val (.long q4), .second, .val (.long q5), .second, .val (.int (3 : Int32)), .val (.ref b6), .val (.long ((((0 : Int64) + q2) + q3) + q4)), .second, .val (.long ((((0 : Int64) + q2) + q3) + q4)), .second, .val (.int (1 : Int32))] [])) _
    refine XS.iload X10.here hx rfl (hb hby at_115) rfl ?_
    show Steps p.tables e below (T10.setTop (mkF m 117 #[.val (.int p1), .val (.long q2), .second, .val (.long q3), .second, .val (.long q4), .second, .val (.long q5), .second, .val (.int (3 : Int32)), .val (.ref b6), .val (.long ((((0 : Int64) + q2) + q3) + q4)), .second, .val (.long ((((0 : Int64) + q2) + q3) + q4)), .second, .val (.int (1 : Int32))] [(.int (3 : Int32))])) _
    refine XS.iconst X10.here hx rfl (hb hby at_117) ?_
    show Steps p.tables e below (T10.setTop (mkF m 118 #[.val (.int p1), .val (.long q2), .second, .val (.long q3), .second, .val (.long q4), .second, .val (.long q5), .second, .val (.int (3 : Int32)), .val (.ref b6), .val (.long ((((0 : Int64) + q2) + q3) + q4)), .second, .val (.long ((((0 : Int64) + q2) + q3) + q4)), .second, .val (.int (1 : Int32))] [(.int (1 : Int32)), (.int (3 : Int32))])) _
    refine XS.icmpNo X10.here hx rfl (hb hby at_118) rfl (tlt hc118).2.2.2 ?_
    show Steps p.tables e below (T10.setTop (mkF m 121 #[.val (.int p1), .val (.long q2), .second, .val (.long q3), .second, .val (.long q4), .second, .val (.long q5), .second, .val (.int (3 : Int32)), .val (.ref b6), .val (.long ((((0 : Int64) + q2) + q3) + q4)), .second, .val (.long ((((0 : Int64) + q2) + q3) + q4)), .second, .val (.int (1 : Int32))] [])) _
    refine XS.aload X10.here hx rfl (hb hby at_121) rfl rfl ?_
    show Steps p.tables e below (T10.setTop (mkF m 123 #[.val (.int p1), .val (.long q2), .second, .val (.long q3), .second, .val (.long q4), .second, .val (.long q5), .second, .val (.int (3 : Int32)), .val (.ref b6), .val (.long ((((0 : Int64) + q2) + q3) + q4)), .second, .val (.long ((((0 : Int64) + q2) + q3) + q4)), .second, .val (.int (1 : Int32))] [(.ref b6)])) _
    refine XS.iconst X10.here hx rfl (hb hby at_123) ?_
    show Steps p.tables e below (T10.setTop (mkF m 124 #[.val (.int p1), .val (.long q2), .second, .val (.long q3), .second, .val (.long q4), .second, .val (.long q5), .second, .val (.int (3 : Int32)), .val (.ref b6), .val (.long ((((0 : Int64) + q2) + q3) + q4)), .second, .val (.long ((((0 : Int64) + q2) + q3) + q4)), .second, .val (.int (1 : Int32))] [(.int (1 : Int32)), (.ref b6)])) _
    refine X10.laload hx (j := (1 : Int32)) (v := (.long q3)) (by exact Ar_b6.1) (State.isArrayOf_alike hZ.alike Ar_b6.2.1) Ar_b6.2.2 hin124 hat124 (g := (mkF m 124 #[.val (.int p1), .val (.long q2), .second, .val (.long q3), .second, .val (.long q4), .second, .val (.long q5), .second, .val (.int (3 : Int32)), .val (.ref b6), .val (.long ((((0 : Int64) + q2) + q3) + q4)), .second, .val (.long ((((0 : Int64) + q2) + q3) + q4)), .second, .val (.int (1 : Int32))] [(.int (1 : Int32)), (.ref b6)])) rfl rfl (hb hby at_124) _ ?_
    show Steps p.tables e below (T10.setTop (mkF m 125 #[.val (.int p1), .val (.long q2), .second, .val (.long q3), .second, .val (.long q4), .second, .val (.long q5), .second, .val (.int (3 : Int32)), .val (.ref b6), .val (.long ((((0 : Int64) + q2) + q3) + q4)), .second, .val (.long ((((0 : Int64) + q2) + q3) + q4)), .second, .val (.int (1 : Int32))] [(.long q3)])) _
    refine XS.lloadN X10.here hx rfl (hb hby at_125) rfl ?_
    show Steps p.tables e below (T10.setTop (mkF m 126 #[.val (.int p1), .val (.long q2), .second, .val (.long q3), .second, .val (.long q4), .second, .val (.long q5), .second, .val (.int (3 : Int32)), .val (.ref b6), .val (.long ((((0 : Int64) + q2) + q3) + q4)), .second, .val (.long ((((0 : Int64) + q2) + q3) + q4)), .second, .val (.int (1 : Int32))] [(.long q3), (.long q3)])) _
    refine XS.lcmp X10.here hx rfl (hb hby at_126) rfl ?_
    show Steps p.tables e below (T10.setTop (mkF m 127 #[.val (.int p1), .val (.long q2), .second, .val (.long q3), .second, .val (.long q4), .second, .val (.long q5), .second, .val (.int (3 : Int32)), .val (.ref b6), .val (.long ((((0 : Int64) + q2) + q3) + q4)), .second, .val (.long ((((0 : Int64) + q2) + q3) + q4)), .second, .val (.int (1 : Int32))] [(.int (lcmpW q3 q3))])) _
    refine XS.ifYes X10.here hx rfl (pc0 := 127) (pc' := 133) rfl (hb hby at_127) rfl ((if0 _ _).trans (teq hc127).1) (by decide) (by decide) ?_
    show Steps p.tables e below (T10.setTop (mkF m 133 #[.val (.int p1), .val (.long q2), .second, .val (.long q3), .second, .val (.long q4), .second, .val (.long q5), .second, .val (.int (3 : Int32)), .val (.ref b6), .val (.long ((((0 : Int64) + q2) + q3) + q4)), .second, .val (.long ((((0 : Int64) + q2) + q3) + q4)), .second, .val (.int (1 : Int32))] [])) _
    refine XS.iload X10.here hx rfl (hb hby at_133) rfl ?_
    show Steps p.tables e below (T10.setTop (mkF m 135 #[.val (.int p1), .val (.long q2), .second, .val (.long q3), .second, .val (.long q4), .second, .val (.long q5), .second, .val (.int (3 : Int32)), .val (.ref b6), .val (.long ((((0 : Int64) + q2) + q3) + q4)), .second, .val (.long ((((0 : Int64) + q2) + q3) + q4)), .second, .val (.int (1 : Int32))] [(.int (3 : Int32))])) _
    refine XS.iconst X10.here hx rfl (hb hby at_135) ?_
    show Steps p.tables e below (T10.setTop (mkF m 136 #[.val (.int p1), .val (.long q2), .second, .val (.long q3), .second, .val (.long q4), .second, .val (.long q5), .second, .val (.int (3 : Int32)), .val (.ref b6), .val (.long ((((0 : Int64) + q2) + q3) + q4)), .second, .val (.long ((((0 : Int64) + q2) + q3) + q4)), .second, .val (.int (1 : Int32))] [(.int (2 : Int32)), (.int (3 : Int32))])) _
    refine XS.icmpNo X10.here hx rfl (hb hby at_136) rfl (tlt hc136).2.2.2 ?_
    show Steps p.tables e below (T10.setTop (mkF m 139 #[.val (.int p1), .val (.long q2), .second, .val (.long q3), .second, .val (.long q4), .second, .val (.long q5), .second, .val (.int (3 : Int32)), .val (.ref b6), .val (.long ((((0 : Int64) + q2) + q3) + q4)), .second, .val (.long ((((0 : Int64) + q2) + q3) + q4)), .second, .val (.int (1 : Int32))] [])) _
    refine XS.aload X10.here hx rfl (hb hby at_139) rfl rfl ?_
    show Steps p.tables e below (T10.setTop (mkF m 141 #[.val (.int p1), .val (.long q2), .second, .val (.long q3), .second, .val (.long q4), .second, .val (.long q5), .second, .val (.int (3 : Int32)), .val (.ref b6), .val (.long ((((0 : Int64) + q2) + q3) + q4)), .second, .val (.long ((((0 : Int64) + q2) + q3) + q4)), .second, .val (.int (1 : Int32))] [(.ref b6)])) _
    refine XS.iconst X10.here hx rfl (hb hby at_141) ?_
    show Steps p.tables e below (T10.setTop (mkF m 142 #[.val (.int p1), .val (.long q2), .second, .val (.long q3), .second, .val (.long q4), .second, .val (.long q5), .second, .val (.int (3 : Int32)), .val (.ref b6), .val (.long ((((0 : Int64) + q2) + q3) + q4)), .second, .val (.long ((((0 : Int64) + q2) + q3) + q4)), .second, .val (.int (1 : Int32))] [(.int (2 : Int32)), (.ref b6)])) _
    refine X10.laload hx (j := (2 : Int32)) (v := (.long q4)) (by exact Ar_b6.1) (State.isArrayOf_alike hZ.alike Ar_b6.2.1) Ar_b6.2.2 hin142 hat142 (g := (mkF m 142 #[.val (.int p1), .val (.long q2), .second, .val (.long q3), .second, .val (.long q4), .second, .val (.long q5), .second, .val (.int (3 : Int32)), .val (.ref b6), .val (.long ((((0 : Int64) + q2) + q3) + q4)), .second, .val (.long ((((0 : Int64) + q2) + q3) + q4)), .second, .val (.int (1 : Int32))] [(.int (2 : Int32)), (.ref b6)])) rfl rfl (hb hby at_142) _ ?_
    show Steps p.tables e below (T10.setTop (mkF m 143 #[.val (.int p1), .val (.long q2), .second, .val (.long q3), .second, .val (.long q4), .second, .val (.long q5), .second, .val (.int (3 : Int32)), .val (.ref b6), .val (.long ((((0 : Int64) + q2) + q3) + q4)), .second, .val (.long ((((0 : Int64) + q2) + q3) + q4)), .second, .val (.int (1 : Int32))] [(.long q4)])) _
    refine XS.lload X10.here hx rfl (hb hby at_143) rfl ?_
    show Steps p.tables e below (T10.setTop (mkF m 145 #[.val (.int p1), .val (.long q2), .second, .val (.long q3), .second, .val (.long q4), .second, .val (.long q5), .second, .val (.int (3 : Int32)), .val (.ref b6), .val (.long ((((0 : Int64) + q2) + q3) + q4)), .second, .val (.long ((((0 : Int64) + q2) + q3) + q4)), .second, .val (.int (1 : Int32))] [(.long q4), (.long q4)])) _
    refine XS.lcmp X10.here hx rfl (hb hby at_145) rfl ?_
    show Steps p.tables e below (T10.setTop (mkF m 146 #[.val (.int p1), .val (.long q2), .second, .val (.long q3), .second, .val (.long q4), .second, .val (.long q5), .second, .val (.int (3 : Int32)), .val (.ref b6), .val (.long ((((0 : Int64) + q2) + q3) + q4)), .second, .val (.long ((((0 : Int64) + q2) + q3) + q4)), .second, .val (.int (1 : Int32))] [(.int (lcmpW q4 q4))])) _
    refine XS.ifYes X10.here hx rfl (pc0 := 146) (pc' := 152) rfl (hb hby at_146) rfl ((if0 _ _).trans (teq hc146).1) (by decide) (by decide) ?_
    show Steps p.tables e below (T10.setTop (mkF m 152 #[.val (.int p1), .val (.long q2), .second, .val (.long q3), .second, .val (.long q4), .second, .val (.long q5), .second, .val (.int (3 : Int32)), .val (.ref b6), .val (.long ((((0 : Int64) + q2) + q3) + q4)), .second, .val (.long ((((0 : Int64) + q2) + q3) + q4)), .second, .val (.int (1 : Int32))] [])) _
    refine XS.iload X10.here hx rfl (hb hby at_152) rfl ?_
    show Steps p.tables e below (T10.setTop (mkF m 154 #[.val (.int p1), .val (.long q2), .second, .val (.long q3), .second, .val (.long q4), .second, .val (.long q5), .second, .val (.int (3 : Int32)), .val (.ref b6), .val (.long ((((0 : Int64) + q2) + q3) + q4)), .second, .val (.long ((((0 : Int64) + q2) + q3) + q4)), .second, .val (.int (1 : Int32))] [(.int (3 : Int32))])) _
    refine XS.iconst X10.here hx rfl (hb hby at_154) ?_
    show Steps p.tables e below (T10.setTop (mkF m 155 #[.val (.int p1), .val (.long q2), .second, .val (.long q3), .second, .val (.long q4), .second, .val (.long q5), .second, .val (.int (3 : Int32)), .val (.ref b6), .val (.long ((((0 : Int64) + q2) + q3) + q4)), .second, .val (.long ((((0 : Int64) + q2) + q3) + q4)), .second, .val (.int (1 : Int32))] [(.int (3 : Int32)), (.int (3 : Int32))])) _
    refine XS.icmpYes X10.here hx rfl (pc0 := 155) (pc' := 171) rfl (hb hby at_155) rfl (flt hc155).2.2.2 (by decide) (by decide) ?_
    show Steps p.tables e below (T10.setTop (mkF m 171 #[.val (.int p1), .val (.long q2), .second, .val (.long q3), .second, .val (.long q4), .second, .val (.long q5), .second, .val (.int (3 : Int32)), .val (.ref b6), .val (.long ((((0 : Int64) + q2) + q3) + q4)), .second, .val (.long ((((0 : Int64) + q2) + q3) + q4)), .second, .val (.int (1 : Int32))] [])) _
    refine XS.lload X10.here hx rfl (hb hby at_171) rfl ?_
    show Steps p.tables e below (T10.setTop (mkF m 173 #[.val (.int p1), .val (.long q2), .second, .val (.long q3), .second, .val (.long q4), .second, .val (.long q5), .second, .val (.int (3 : Int32)), .val (.ref b6), .val (.long ((((0 : Int64) + q2) + q3) + q4)), .second, .val (.long ((((0 : Int64) + q2) + q3) + q4)), .second, .val (.int (1 : Int32))] [(.long ((((0 : Int64) + q2) + q3) + q4))])) _
    refine XS.lload X10.here hx rfl (hb hby at_173) rfl ?_
    show Steps p.tables e below (T10.setTop (mkF m 175 #[.val (.int p1), .val (.long q2), .second, .val (.long q3), .second, .val (.long q4), .second, .val (.long q5), .second, .val (.int (3 : Int32)), .val (.ref b6), .val (.long ((((0 : Int64) + q2) + q3) + q4)), .second, .val (.long ((((0 : Int64) + q2) + q3) + q4)), .second, .val (.int (1 : Int32))] [(.long ((((0 : Int64) + q2) + q3) + q4)), (.long ((((0 : Int64) + q2) + q3) + q4))])) _
    refine XS.lcmp X10.here hx rfl (hb hby at_175) rfl ?_
    show Steps p.tables e below (T10.setTop (mkF m 176 #[.val (.int p1), .val (.long q2), .second, .val (.long q3), .second, .val (.long q4), .second, .val (.long q5), .second, .val (.int (3 : Int32)), .val (.ref b6), .val (.long ((((0 : Int64) + q2) + q3) + q4)), .second, .val (.long ((((0 : Int64) + q2) + q3) + q4)), .second, .val (.int (1 : Int32))] [(.int (lcmpW ((((0 : Int64) + q2) + q3) + q4) ((((0 : Int64) + q2) + q3) + q4)))])) _
    refine XS.ifNo X10.here hx rfl (hb hby at_176) rfl ((if0 _ _).trans (teq ((lw_eq _ _).2 rfl : (lcmpW ((((0 : Int64) + q2) + q3) + q4) ((((0 : Int64) + q2) + q3) + q4)) = (0 : Int32))).2) ?_
    show Steps p.tables e below (T10.setTop (mkF m 179 #[.val (.int p1), .val (.long q2), .second, .val (.long q3), .second, .val (.long q4), .second, .val (.long q5), .second, .val (.int (3 : Int32)), .val (.ref b6), .val (.long ((((0 : Int64) + q2) + q3) + q4)), .second, .val (.long ((((0 : Int64) + q2) + q3) + q4)), .second, .val (.int (1 : Int32))] [])) _
    refine XS.iload X10.here hx rfl (hb hby at_179) rfl ?_
    show Steps p.tables e below (T10.setTop (mkF m 181 #[.val (.int p1), .val (.long q2), .second, .val (.long q3), .second, .val (.long q4), .second, .val (.long q5), .second, .val (.int (3 : Int32)), .val (.ref b6), .val (.long ((((0 : Int64) + q2) + q3) + q4)), .second, .val (.long ((((0 : Int64) + q2) + q3) + q4)), .second, .val (.int (1 : Int32))] [(.int (1 : Int32))])) _
    refine XS.ifNo X10.here hx rfl (hb hby at_181) rfl ((if0 _ _).trans (feq hc181).1) ?_
    show Steps p.tables e below (T10.setTop (mkF m 184 #[.val (.int p1), .val (.long q2), .second, .val (.long q3), .second, .val (.long q4), .second, .val (.long q5), .second, .val (.int (3 : Int32)), .val (.ref b6), .val (.long ((((0 : Int64) + q2) + q3) + q4)), .second, .val (.long ((((0 : Int64) + q2) + q3) + q4)), .second, .val (.int (1 : Int32))] [])) _
    refine XS.iconst X10.here hx rfl (hb hby at_184) ?_
    show Steps p.tables e below (T10.setTop (mkF m 185 #[.val (.int p1), .val (.long q2), .second, .val (.long q3), .second, .val (.long q4), .second, .val (.long q5), .second, .val (.int (3 : Int32)), .val (.ref b6), .val (.long ((((0 : Int64) + q2) + q3) + q4)), .second, .val (.long ((((0 : Int64) + q2) + q3) + q4)), .second, .val (.int (1 : Int32))] [(.int (1 : Int32))])) _
    refine XS.goto X10.here hx rfl (pc0 := 185) (pc' := 189) rfl (hb hby at_185) (by decide) (by decide) ?_
    show Steps p.tables e below (T10.setTop (mkF m 189 #[.val (.int p1), .val (.long q2), .second, .val (.long q3), .second, .val (.long q4), .second, .val (.long q5), .second, .val (.int (3 : Int32)), .val (.ref b6), .val (.long ((((0 : Int64) + q2) + q3) + q4)), .second, .val (.long ((((0 : Int64) + q2) + q3) + q4)), .second, .val (.int (1 : Int32))] [(.int (1 : Int32))])) _
    exact retN X10 hx (t := .boolean) Bd.returns (by simp) (hb hby at_189) hr
  · show Q0 Z p1 q2 q3 q4 q5 h0 n0 _ T10.heap _
    exact ⟨rfl, N10⟩
set_option maxRecDepth 65536 in
set_option maxHeartbeats 40000000 in
theorem rm0_4 (l : Launch) (Z : State) (a0 : Array Value) (hw : ∀ d ∈ tables_1, d.before a0 Z = true) (ws : List Jvm.Cond) (p1 : Int32) (q2 : Int64) (q3 : Int64) (q4 : Int64) (q5 : Int64) (h0 : Heap) (n0 : Nat) (Z0 : n0 ≤ h0.size) (hk : ((p1 &&& (2147483647 : Int32)) % (5 : Int32)) = (4 : Int32)) (hc19 : (0 : Int32) < (4 : Int32)) (hc36 : (1 : Int32) < (4 : Int32)) (hc53 : (2 : Int32) < (4 : Int32)) (hc72 : (3 : Int32) < (4 : Int32)) (hc100 : (0 : Int32) < (4 : Int32)) (hc109 : (lcmpW q2 q2) = (0 : Int32)) (hc118 : (1 : Int32) < (4 : Int32)) (hc127 : (lcmpW q3 q3) = (0 : Int32)) (hc136 : (2 : Int32) < (4 : Int32)) (hc146 : (lcmpW q4 q4) = (0 : Int32)) (hc155 : (3 : Int32) < (4 : Int32)) (hc165 : (lcmpW q5 q5) = (0 : Int32)) (hc181 : ¬ ((1 : Int32) = (0 : Int32))) :
    MetFree l x (head1 (Jvm.Cond.code x code maxLocals ret :: ws) room_1) (fun a U => a = #[(.int p1), (.long q2), (.long q3), (.long q4), (.long q5)] ∧ Z.Warmed39 U.vm ∧ U.heap = h0) (fun _ _ _ _ _ => True) (fun _ U o U' => ∃ v L, o = .returned v ∧ Q0 Z p1 q2 q3 q4 q5 h0 n0 v U'.heap L ∧ FrameEnd U o U' L room_1.cells room_1.slots) := by
  refine MetFree.of_bodySF (plainFor_of_name pn_0) hisR ?_
  intro p e s m args below meth c s₁ Bd hml0 hP hK
  obtain ⟨rfl, hZ, hh⟩ := hP
  have hx := Bd.exec
  have hby := Bd.bytes
  have hml : c.maxLocals = 16 := hml0
  have hown : s.vm.findClass "com/example/turnstile/turnstile/lab/WorkersSumPinLaw" = some m.cls := findClass_of_methodNamed Bd.named
  have hnm := (name_of_methodNamed Bd.named Bd.method).1
  have X0 : Stand p l e room_1 s m #[(.int p1), (.long q2), (.long q3), (.long q4), (.long q5)] below meth c s₁ [] 0 0 := Stand.of_body Bd
  have e0 : s₁.heap = h0 := by rw [← hh, Bd.state]; rfl
  have N0 := Fr.nil n0
  have pre0 : ∀ t, Steps p.tables e below (s₁.setTop (mkF m 0 #[.val (.int p1), .val (.long q2), .second, .val (.long q3), .second, .val (.long q4), .second, .val (.long q5), .second, .unset, .unset, .unset, .unset, .unset, .unset, .unset] [])) t → Steps p.tables e below (s₁.setTop (entryFrame m #[(.int p1), (.long q2), (.long q3), (.long q4), (.long q5)] maxLocals)) t := fun t k => castTop (ef_0 m p1 q2 q3 q4 q5) k
  obtain ⟨T6, h6, k6, X6, e6, E6, A6, st6⟩ := newP X0 hx hZ (hw _ (List.mem_of_getElem? (i := 1) rfl)) e0 (g := (mkF m 10 #[.val (.int p1), .val (.long q2), .second, .val (.long q3), .second, .val (.long q4), .second, .val (.long q5), .second, .val (.int (4 : Int32)), .unset, .unset, .unset, .unset, .unset, .unset] [(.int (4 : Int32))])) rfl (hb hby at_10) rfl (by decide) (cap := 4) (by decide) (by decide) (by decide) (by decide)
  obtain ⟨b6, g6⟩ : ∃ z, z = h0.size := ⟨_, rfl⟩
  rw [← g6] at A6 st6
  have V_b6 : Arv Z h6 b6 k6 .long (4 : Int32) [(.long (0 : Int64)), (.long (0 : Int64)), (.long (0 : Int64)), (.long (0 : Int64))] (.long (0 : Int64)) := (Arv.new A6 (by decide)).pad (pad_rep [] (.long (0 : Int64)) 4)
  have g_b6 : n0 ≤ b6 := Nat.le_trans Z0 (Nat.le_of_eq g6.symm)
  have sz_b6 : h0.size ≤ b6 := (Nat.le_trans (Keep.refl h0 []).1 (Nat.le_of_eq g6.symm))
  have K6 : Keep h0 h6 [] := (Keep.refl h0 []).ext E6
  obtain ⟨cl_b6_26, Ar_b6, q_b6, S_b6, N_b6, H_b6, G_b6⟩ := V_b6
  have hin26 : ¬ ((0 : Int32) < 0 ∨ cl_b6_26.slots.size ≤ ((0 : Int32)).toNatClampNeg) := inb_of S_b6 ⟨by decide, by decide⟩
  obtain ⟨T7, h7, X7, e7, W7, st7⟩ := stJ X6 hx hZ e6 Ar_b6 (j := (0 : Int32)) hin26 (g := (mkF m 26 #[.val (.int p1), .val (.long q2), .second, .val (.long q3), .second, .val (.long q4), .second, .val (.long q5), .second, .val (.int (4 : Int32)), .val (.ref b6), .val (.long (0 : Int64)), .second, .unset, .unset, .unset] [(.long q2), (.int (0 : Int32)), (.ref b6)])) rfl rfl (hb hby at_26)
  have V_b6_7 := Arv.set Ar_b6 q_b6 S_b6 N_b6 H_b6 G_b6 rfl W7 0 rfl (Nat.le_of_ble_eq_true rfl)
  have K7 : Keep h0 h7 [] := K6.wr W7 (Or.inr sz_b6)
  have N7 := Fr.snoc X7 N0 g_b6
  obtain ⟨cl_b6_43, Ar_b6, q_b6, S_b6, N_b6, H_b6, G_b6⟩ := V_b6_7
  have hin43 : ¬ ((1 : Int32) < 0 ∨ cl_b6_43.slots.size ≤ ((1 : Int32)).toNatClampNeg) := inb_of S_b6 ⟨by decide, by decide⟩
  obtain ⟨T8, h8, X8, e8, W8, st8⟩ := stJ X7 hx hZ e7 Ar_b6 (j := (1 : Int32)) hin43 (g := (mkF m 43 #[.val (.int p1), .val (.long q2), .second, .val (.long q3), .second, .val (.long q4), .second, .val (.long q5), .second, .val (.int (4 : Int32)), .val (.ref b6), .val (.long ((0 : Int64) + q2)), .second, .unset, .unset, .unset] [(.long q3), (.int (1 : Int32)), (.ref b6)])) rfl rfl (hb hby at_43)
  have V_b6_8 := Arv.set Ar_b6 q_b6 S_b6 N_b6 H_b6 G_b6 rfl W8 1 rfl (Nat.le_of_ble_eq_true rfl)
  have K8 : Keep h0 h8 [] := K7.wr W8 (Or.inr sz_b6)
  have N8 := Fr.snoc X8 N7 g_b6
  obtain ⟨cl_b6_61, Ar_b6, q_b6, S_b6, N_b6, H_b6, G_b6⟩ := V_b6_8
  have hin61 : ¬ ((2 : Int32) < 0 ∨ cl_b6_61.slots.size ≤ ((2 : Int32)).toNatClampNeg) := inb_of S_b6 ⟨by decide, by decide⟩
  obtain ⟨T9, h9, X9, e9, W9, st9⟩ := stJ X8 hx hZ e8 Ar_b6 (j := (2 : Int32)) hin61 (g := (mkF m 61 #[.val (.int p1), .val (.long q2), .second, .val (.long q3), .second, .val (.long q4), .second, .val (.long q5), .second, .val (.int (4 : Int32)), .val (.ref b6), .val (.long (((0 : Int64) + q2) + q3)), .second, .unset, .unset, .unset] [(.long q4), (.int (2 : Int32)), (.ref b6)])) rfl rfl (hb hby at_61)
  have V_b6_9 := Arv.set Ar_b6 q_b6 S_b6 N_b6 H_b6 G_b6 rfl W9 2 rfl (Nat.le_of_ble_eq_true rfl)
  have K9 : Keep h0 h9 [] := K8.wr W9 (Or.inr sz_b6)
  have N9 := Fr.snoc X9 N8 g_b6
  obtain ⟨cl_b6_80, Ar_b6, q_b6, S_b6, N_b6, H_b6, G_b6⟩ := V_b6_9
  have hin80 : ¬ ((3 : Int32) < 0 ∨ cl_b6_80.slots.size ≤ ((3 : Int32)).toNatClampNeg) := inb_of S_b6 ⟨by decide, by decide⟩
  obtain ⟨T10, h10, X10, e10, W10, st10⟩ := stJ X9 hx hZ e9 Ar_b6 (j := (3 : Int32)) hin80 (g := (mkF m 80 #[.val (.int p1), .val (.long q2), .second, .val (.long q3), .second, .val (.long q4), .second, .val (.long q5), .second, .val (.int (4 : Int32)), .val (.ref b6), .val (.long ((((0 : Int64) + q2) + q3) + q4)), .second, .unset, .unset, .unset] [(.long q5), (.int (3 : Int32)), (.ref b6)])) rfl rfl (hb hby at_80)
  have V_b6_10 := Arv.set Ar_b6 q_b6 S_b6 N_b6 H_b6 G_b6 rfl W10 3 rfl (Nat.le_of_ble_eq_true rfl)
  have K10 : Keep h0 h10 [] := K9.wr W10 (Or.inr sz_b6)
  have N10 := Fr.snoc X10 N9 g_b6
  obtain ⟨_, _, ⟨T11, L11, k11, n11⟩, -, X11, ⟨Lc11, hQ11, l11, y11, z11⟩, st11⟩ := Jvm.LawKit.callS X10 hx (y := (⟨"com/example/turnstile/turnstile/lab/Workers", "sum", "([J)J"⟩ : MethodName)) hown (mvT hZ (hw _ (List.mem_of_getElem? (i := 2) rfl))) (mvT hZ (hw _ (List.mem_of_getElem? (i := 3) rfl))) (mvT hZ (hw _ (List.mem_of_getElem? (i := 4) rfl))) (mvT hZ (hw _ (List.mem_of_getElem? (i := 5) rfl))) (by decide) (backOf (W := 0) (rm1 l Z a0 hw [] b6 _ k6 (fun j => [q2, q3, q4, q5].getD j 0) 4 (by decide) h10 n0 (Nat.le_trans Z0 K10.1) V_b6_10 (fun j hj => match j, hj with | 0, _ => rfl | 1, _ => rfl | 2, _ => rfl | 3, _ => rfl)) hZ (hw _ (List.mem_of_getElem? (i := 5) rfl)) (hw _ (List.mem_of_getElem? (i := 4) rfl)) (by decide) (by decide)) (g := (mkF m 90 #[.val (.int p1), .val (.long q2), .second, .val (.long q3), .second, .val (.long q4), .second, .val (.long q5), .second, .val (.int (4 : Int32)), .val (.ref b6), .val (.long (((((0 : Int64) + q2) + q3) + q4) + q5)), .second, .unset, .unset, .unset] [(.ref b6)])) rfl (by rw [hml]; rfl) (argsL := [(.ref b6)]) (rest := []) (lenOf pd_0_0 rfl) rfl (by show 2 * 0 + _ ≤ _; exact Nat.le_of_eq rfl) (hb hby at_90) (fun _ _ => ⟨rfl, e10, (by decide : 1 + 0 ≤ _), (by decide : 4 + 0 ≤ _)⟩)
  dsimp only [Pt.U, Pt.locs, Pt.cells, Pt.slots] at X11 l11 y11 z11 st11 hQ11
  subst l11 y11 z11
  obtain ⟨rfl, N11q, eq11⟩ := hQ11
  have N11 := Fr.app N10 N11q
  have Zc11 : n0 ≤ T11.heap.size := by rw [eq11]; exact (Nat.le_trans Z0 K10.1)
  obtain ⟨clB, ArB, -, SzB, NnB, HhB, -⟩ := V_b6_10
  have Ar_b6 : Arr Z T11.heap b6 clB .long := by rw [eq11]; exact ArB
  have hin106 : ¬ ((0 : Int32) < 0 ∨ clB.slots.size ≤ ((0 : Int32)).toNatClampNeg) := inb_of SzB ⟨by decide, by decide⟩
  have hat106 : clB.slots[((0 : Int32)).toNatClampNeg]? = some (.long q2) := by rw [show ((0 : Int32)).toNatClampNeg = 0 from by decide]; exact HhB 0 (by rw [SzB]; decide)
  have hin124 : ¬ ((1 : Int32) < 0 ∨ clB.slots.size ≤ ((1 : Int32)).toNatClampNeg) := inb_of SzB ⟨by decide, by decide⟩
  have hat124 : clB.slots[((1 : Int32)).toNatClampNeg]? = some (.long q3) := by rw [show ((1 : Int32)).toNatClampNeg = 1 from by decide]; exact HhB 1 (by rw [SzB]; decide)
  have hin142 : ¬ ((2 : Int32) < 0 ∨ clB.slots.size ≤ ((2 : Int32)).toNatClampNeg) := inb_of SzB ⟨by decide, by decide⟩
  have hat142 : clB.slots[((2 : Int32)).toNatClampNeg]? = some (.long q4) := by rw [show ((2 : Int32)).toNatClampNeg = 2 from by decide]; exact HhB 2 (by rw [SzB]; decide)
  have hin161 : ¬ ((3 : Int32) < 0 ∨ clB.slots.size ≤ ((3 : Int32)).toNatClampNeg) := inb_of SzB ⟨by decide, by decide⟩
  have hat161 : clB.slots[((3 : Int32)).toNatClampNeg]? = some (.long q5) := by rw [show ((3 : Int32)).toNatClampNeg = 3 from by decide]; exact HhB 3 (by rw [SzB]; decide)
  obtain ⟨fs, hr, hrun, hended, hW, hsame⟩ := X11.leave (v := some (.int (1 : Int32))) (fun h => by rw [Bd.returns] at h; cases h)
  refine ⟨_, _, pre0 _ ?_, hrun, hended, _, _, rfl, ?_, ⟨_, rfl⟩, hW, hsame.mono (by decide) (by decide)⟩
  · show Steps p.tables e below (s₁.setTop (mkF m 0 #[.val (.int p1), .val (.long q2), .second, .val (.long q3), .second, .val (.long q4), .second, .val (.long q5), .second, .unset, .unset, .unset, .unset, .unset, .unset, .unset] [])) _
    refine XS.iloadN X0.here hx rfl (hb hby at_0) rfl ?_
    show Steps p.tables e below (s₁.setTop (mkF m 1 #[.val (.int p1), .val (.long q2), .second, .val (.long q3), .second, .val (.long q4), .second, .val (.long q5), .second, .unset, .unset, .unset, .unset, .unset, .unset, .unset] [(.int p1)])) _
    refine X0.ldcInt hx hown (mvT hZ (hw _ (List.mem_of_getElem? (i := 0) rfl))) (g := (mkF m 1 #[.val (.int p1), .val (.long q2), .second, .val (.long q3), .second, .val (.long q4), .second, .val (.long q5), .second, .unset, .unset, .unset, .unset, .unset, .unset, .unset] [(.int p1)])) rfl (hb hby at_1) _ ?_
    show Steps p.tables e below (s₁.setTop (mkF m 3 #[.val (.int p1), .val (.long q2), .second, .val (.long q3), .second, .val (.long q4), .second, .val (.long q5), .second, .unset, .unset, .unset, .unset, .unset, .unset, .unset] [(.int (2147483647 : Int32)), (.int p1)])) _
    refine XS.iand X0.here hx rfl (hb hby at_3) rfl ?_
    show Steps p.tables e below (s₁.setTop (mkF m 4 #[.val (.int p1), .val (.long q2), .second, .val (.long q3), .second, .val (.long q4), .second, .val (.long q5), .second, .unset, .unset, .unset, .unset, .unset, .unset, .unset] [(.int (p1 &&& (2147483647 : Int32)))])) _
    refine XS.iconst X0.here hx rfl (hb hby at_4) ?_
    show Steps p.tables e below (s₁.setTop (mkF m 5 #[.val (.int p1), .val (.long q2), .second, .val (.long q3), .second, .val (.long q4), .second, .val (.long q5), .second, .unset, .unset, .unset, .unset, .unset, .unset, .unset] [(.int (5 : Int32)), (.int (p1 &&& (2147483647 : Int32)))])) _
    refine iremM X0 hx rfl (hb hby at_5) rfl (by decide) ?_
    show Steps p.tables e below (s₁.setTop (mkF m 6 #[.val (.int p1), .val (.long q2), .second, .val (.long q3), .second, .val (.long q4), .second, .val (.long q5), .second, .unset, .unset, .unset, .unset, .unset, .unset, .unset] [(.int ((p1 &&& (2147483647 : Int32)) % (5 : Int32)))])) _
    rw [hk]
    show Steps p.tables e below (s₁.setTop (mkF m 6 #[.val (.int p1), .val (.long q2), .second, .val (.long q3), .second, .val (.long q4), .second, .val (.long q5), .second, .unset, .unset, .unset, .unset, .unset, .unset, .unset] [(.int (4 : Int32))])) _
    refine XS.istore X0.here hx rfl (hb hby at_6) rfl (l' := #[.val (.int p1), .val (.long q2), .second, .val (.long q3), .second, .val (.long q4), .second, .val (.long q5), .second, .val (.int (4 : Int32)), .unset, .unset, .unset, .unset, .unset, .unset]) rfl ?_
    show Steps p.tables e below (s₁.setTop (mkF m 8 #[.val (.int p1), .val (.long q2), .second, .val (.long q3), .second, .val (.long q4), .second, .val (.long q5), .second, .val (.int (4 : Int32)), .unset, .unset, .unset, .unset, .unset, .unset] [])) _
    refine XS.iload X0.here hx rfl (hb hby at_8) rfl ?_
    show Steps p.tables e below (s₁.setTop (mkF m 10 #[.val (.int p1), .val (.long q2), .second, .val (.long q3), .second, .val (.long q4), .second, .val (.long q5), .second, .val (.int (4 : Int32)), .unset, .unset, .unset, .unset, .unset, .unset] [(.int (4 : Int32))])) _
    refine st6 _ ?_
    show Steps p.tables e below (T6.setTop (mkF m 12 #[.val (.int p1), .val (.long q2), .second, .val (.long q3), .second, .val (.long q4), .second, .val (.long q5), .second, .val (.int (4 : Int32)), .unset, .unset, .unset, .unset, .unset, .unset] [(.ref b6)])) _
    refine XS.astore X6.here hx rfl (hb hby at_12) rfl rfl (l' := #[.val (.int p1), .val (.long q2), .second, .val (.long q3), .second, .val (.long q4), .second, .val (.long q5), .second, .val (.int (4 : Int32)), .val (.ref b6), .unset, .unset, .unset, .unset, .unset]) rfl ?_
    show Steps p.tables e below (T6.setTop (mkF m 14 #[.val (.int p1), .val (.long q2), .second, .val (.long q3), .second, .val (.long q4), .second, .val (.long q5), .second, .val (.int (4 : Int32)), .val (.ref b6), .unset, .unset, .unset, .unset, .unset] [])) _
    refine XS.lconst X6.here hx rfl (hb hby at_14) ?_
    show Steps p.tables e below (T6.setTop (mkF m 15 #[.val (.int p1), .val (.long q2), .second, .val (.long q3), .second, .val (.long q4), .second, .val (.long q5), .second, .val (.int (4 : Int32)), .val (.ref b6), .unset, .unset, .unset, .unset, .unset] [(.long (0 : Int64))])) _
    refine XS.lstore X6.here hx rfl (hb hby at_15) rfl (l' := #[.val (.int p1), .val (.long q2), .second, .val (.long q3), .second, .val (.long q4), .second, .val (.long q5), .second, .val (.int (4 : Int32)), .val (.ref b6), .val (.long (0 : Int64)), .second, .unset, .unset, .unset]) rfl ?_
    show Steps p.tables e below (T6.setTop (mkF m 17 #[.val (.int p1), .val (.long q2), .second, .val (.long q3), .second, .val (.long q4), .second, .val (.long q5), .second, .val (.int (4 : Int32)), .val (.ref b6), .val (.long (0 : Int64)), .second, .unset, .unset, .unset] [])) _
    refine XS.iload X6.here hx rfl (hb hby at_17) rfl ?_
    show Steps p.tables e below (T6.setTop (mkF m 19 #[.val (.int p1), .val (.long q2), .second, .val (.long q3), .second, .val (.long q4), .second, .val (.long q5), .second, .val (.int (4 : Int32)), .val (.ref b6), .val (.long (0 : Int64)), .second, .unset, .unset, .unset] [(.int (4 : Int32))])) _
    refine XS.ifNo X6.here hx rfl (hb hby at_19) rfl ((if0 _ _).trans (tlt hc19).2.2.2) ?_
    show Steps p.tables e below (T6.setTop (mkF m 22 #[.val (.int p1), .val (.long q2), .second, .val (.long q3), .second, .val (.long q4), .second, .val (.long q5), .second, .val (.int (4 : Int32)), .val (.ref b6), .val (.long (0 : Int64)), .second, .unset, .unset, .unset] [])) _
    refine XS.aload X6.here hx rfl (hb hby at_22) rfl rfl ?_
    show Steps p.tables e below (T6.setTop (mkF m 24 #[.val (.int p1), .val (.long q2), .second, .val (.long q3), .second, .val (.long q4), .second, .val (.long q5), .second, .val (.int (4 : Int32)), .val (.ref b6), .val (.long (0 : Int64)), .second, .unset, .unset, .unset] [(.ref b6)])) _
    refine XS.iconst X6.here hx rfl (hb hby at_24) ?_
    show Steps p.tables e below (T6.setTop (mkF m 25 #[.val (.int p1), .val (.long q2), .second, .val (.long q3), .second, .val (.long q4), .second, .val (.long q5), .second, .val (.int (4 : Int32)), .val (.ref b6), .val (.long (0 : Int64)), .second, .unset, .unset, .unset] [(.int (0 : Int32)), (.ref b6)])) _
    refine XS.lloadN X6.here hx rfl (hb hby at_25) rfl ?_
    show Steps p.tables e below (T6.setTop (mkF m 26 #[.val (.int p1), .val (.long q2), .second, .val (.long q3), .second, .val (.long q4), .second, .val (.long q5), .second, .val (.int (4 : Int32)), .val (.ref b6), .val (.long (0 : Int64)), .second, .unset, .unset, .unset] [(.long q2), (.int (0 : Int32)), (.ref b6)])) _
    refine st7 _ ?_
    show Steps p.tables e below (T7.setTop (mkF m 27 #[.val (.int p1), .val (.long q2), .second, .val (.long q3), .second, .val (.long q4), .second, .val (.long q5), .second, .val (.int (4 : Int32)), .val (.ref b6), .val (.long (0 : Int64)), .second, .unset, .unset, .unset] [])) _
    refine XS.lload X7.here hx rfl (hb hby at_27) rfl ?_
    show Steps p.tables e below (T7.setTop (mkF m 29 #[.val (.int p1), .val (.long q2), .second, .val (.long q3), .second, .val (.long q4), .second, .val (.long q5), .second, .val (.int (4 : Int32)), .val (.ref b6), .val (.long (0 : Int64)), .second, .unset, .unset, .unset] [(.long (0 : Int64))])) _
    refine XS.lloadN X7.here hx rfl (hb hby at_29) rfl ?_
    show Steps p.tables e below (T7.setTop (mkF m 30 #[.val (.int p1), .val (.long q2), .second, .val (.long q3), .second, .val (.long q4), .second, .val (.long q5), .second, .val (.int (4 : Int32)), .val (.ref b6), .val (.long (0 : Int64)), .second, .unset, .unset, .unset] [(.long q2), (.long (0 : Int64))])) _
    refine XS.ladd X7.here hx rfl (hb hby at_30) rfl ?_
    show Steps p.tables e below (T7.setTop (mkF m 31 #[.val (.int p1), .val (.long q2), .second, .val (.long q3), .second, .val (.long q4), .second, .val (.long q5), .second, .val (.int (4 : Int32)), .val (.ref b6), .val (.long (0 : Int64)), .second, .unset, .unset, .unset] [(.long ((0 : Int64) + q2))])) _
    refine XS.lstore X7.here hx rfl (hb hby at_31) rfl (l' := #[.val (.int p1), .val (.long q2), .second, .val (.long q3), .second, .val (.long q4), .second, .val (.long q5), .second, .val (.int (4 : Int32)), .val (.ref b6), .val (.long ((0 : Int64) + q2)), .second, .unset, .unset, .unset]) rfl ?_
    show Steps p.tables e below (T7.setTop (mkF m 33 #[.val (.int p1), .val (.long q2), .second, .val (.long q3), .second, .val (.long q4), .second, .val (.long q5), .second, .val (.int (4 : Int32)), .val (.ref b6), .val (.long ((0 : Int64) + q2)), .second, .unset, .unset, .unset] [])) _
    refine XS.iload X7.here hx rfl (hb hby at_33) rfl ?_
    show Steps p.tables e below (T7.setTop (mkF m 35 #[.val (.int p1), .val (.long q2), .second, .val (.long q3), .second, .val (.long q4), .second, .val (.long q5), .second, .val (.int (4 : Int32)), .val (.ref b6), .val (.long ((0 : Int64) + q2)), .second, .unset, .unset, .unset] [(.int (4 : Int32))])) _
    refine XS.iconst X7.here hx rfl (hb hby at_35) ?_
    show Steps p.tables e below (T7.setTop (mkF m 36 #[.val (.int p1), .val (.long q2), .second, .val (.long q3), .second, .val (.long q4), .second, .val (.long q5), .second, .val (.int (4 : Int32)), .val (.ref b6), .val (.long ((0 : Int64) + q2)), .second, .unset, .unset, .unset] [(.int (1 : Int32)), (.int (4 : Int32))])) _
    refine XS.icmpNo X7.here hx rfl (hb hby at_36) rfl (tlt hc36).2.2.2 ?_
    show Steps p.tables e below (T7.setTop (mkF m 39 #[.val (.int p1), .val (.long q2), .second, .val (.long q3), .second, .val (.long q4), .second, .val (.long q5), .second, .val (.int (4 : Int32)), .val (.ref b6), .val (.long ((0 : Int64) + q2)), .second, .unset, .unset, .unset] [])) _
    refine XS.aload X7.here hx rfl (hb hby at_39) rfl rfl ?_
    show Steps p.tables e below (T7.setTop (mkF m 41 #[.val (.int p1), .val (.long q2), .second, .val (.long q3), .second, .val (.long q4), .second, .val (.long q5), .second, .val (.int (4 : Int32)), .val (.ref b6), .val (.long ((0 : Int64) + q2)), .second, .unset, .unset, .unset] [(.ref b6)])) _
    refine XS.iconst X7.here hx rfl (hb hby at_41) ?_
    show Steps p.tables e below (T7.setTop (mkF m 42 #[.val (.int p1), .val (.long q2), .second, .val (.long q3), .second, .val (.long q4), .second, .val (.long q5), .second, .val (.int (4 : Int32)), .val (.ref b6), .val (.long ((0 : Int64) + q2)), .second, .unset, .unset, .unset] [(.int (1 : Int32)), (.ref b6)])) _
    refine XS.lloadN X7.here hx rfl (hb hby at_42) rfl ?_
    show Steps p.tables e below (T7.setTop (mkF m 43 #[.val (.int p1), .val (.long q2), .second, .val (.long q3), .second, .val (.long q4), .second, .val (.long q5), .second, .val (.int (4 : Int32)), .val (.ref b6), .val (.long ((0 : Int64) + q2)), .second, .unset, .unset, .unset] [(.long q3), (.int (1 : Int32)), (.ref b6)])) _
    refine st8 _ ?_
    show Steps p.tables e below (T8.setTop (mkF m 44 #[.val (.int p1), .val (.long q2), .second, .val (.long q3), .second, .val (.long q4), .second, .val (.long q5), .second, .val (.int (4 : Int32)), .val (.ref b6), .val (.long ((0 : Int64) + q2)), .second, .unset, .unset, .unset] [])) _
    refine XS.lload X8.here hx rfl (hb hby at_44) rfl ?_
    show Steps p.tables e below (T8.setTop (mkF m 46 #[.val (.int p1), .val (.long q2), .second, .val (.long q3), .second, .val (.long q4), .second, .val (.long q5), .second, .val (.int (4 : Int32)), .val (.ref b6), .val (.long ((0 : Int64) + q2)), .second, .unset, .unset, .unset] [(.long ((0 : Int64) + q2))])) _
    refine XS.lloadN X8.here hx rfl (hb hby at_46) rfl ?_
    show Steps p.tables e below (T8.setTop (mkF m 47 #[.val (.int p1), .val (.long q2), .second, .val (.long q3), .second, .val (.long q4), .second, .val (.long q5), .second, .val (.int (4 : Int32)), .val (.ref b6), .val (.long ((0 : Int64) + q2)), .second, .unset, .unset, .unset] [(.long q3), (.long ((0 : Int64) + q2))])) _
    refine XS.ladd X8.here hx rfl (hb hby at_47) rfl ?_
    show Steps p.tables e below (T8.setTop (mkF m 48 #[.val (.int p1), .val (.long q2), .second, .val (.long q3), .second, .val (.long q4), .second, .val (.long q5), .second, .val (.int (4 : Int32)), .val (.ref b6), .val (.long ((0 : Int64) + q2)), .second, .unset, .unset, .unset] [(.long (((0 : Int64) + q2) + q3))])) _
    refine XS.lstore X8.here hx rfl (hb hby at_48) rfl (l' := #[.val (.int p1), .val (.long q2), .second, .val (.long q3), .second, .val (.long q4), .second, .val (.long q5), .second, .val (.int (4 : Int32)), .val (.ref b6), .val (.long (((0 : Int64) + q2) + q3)), .second, .unset, .unset, .unset]) rfl ?_
    show Steps p.tables e below (T8.setTop (mkF m 50 #[.val (.int p1), .val (.long q2), .second, .val (.long q3), .second, .val (.long q4), .second, .val (.long q5), .second, .val (.int (4 : Int32)), .val (.ref b6), .val (.long (((0 : Int64) + q2) + q3)), .second, .unset, .unset, .unset] [])) _
    refine XS.iload X8.here hx rfl (hb hby at_50) rfl ?_
    show Steps p.tables e below (T8.setTop (mkF m 52 #[.val (.int p1), .val (.long q2), .second, .val (.long q3), .second, .val (.long q4), .second, .val (.long q5), .second, .val (.int (4 : Int32)), .val (.ref b6), .val (.long (((0 : Int64) + q2) + q3)), .second, .unset, .unset, .unset] [(.int (4 : Int32))])) _
    refine XS.iconst X8.here hx rfl (hb hby at_52) ?_
    show Steps p.tables e below (T8.setTop (mkF m 53 #[.val (.int p1), .val (.long q2), .second, .val (.long q3), .second, .val (.long q4), .second, .val (.long q5), .second, .val (.int (4 : Int32)), .val (.ref b6), .val (.long (((0 : Int64) + q2) + q3)), .second, .unset, .unset, .unset] [(.int (2 : Int32)), (.int (4 : Int32))])) _
    refine XS.icmpNo X8.here hx rfl (hb hby at_53) rfl (tlt hc53).2.2.2 ?_
    show Steps p.tables e below (T8.setTop (mkF m 56 #[.val (.int p1), .val (.long q2), .second, .val (.long q3), .second, .val (.long q4), .second, .val (.long q5), .second, .val (.int (4 : Int32)), .val (.ref b6), .val (.long (((0 : Int64) + q2) + q3)), .second, .unset, .unset, .unset] [])) _
    refine XS.aload X8.here hx rfl (hb hby at_56) rfl rfl ?_
    show Steps p.tables e below (T8.setTop (mkF m 58 #[.val (.int p1), .val (.long q2), .second, .val (.long q3), .second, .val (.long q4), .second, .val (.long q5), .second, .val (.int (4 : Int32)), .val (.ref b6), .val (.long (((0 : Int64) + q2) + q3)), .second, .unset, .unset, .unset] [(.ref b6)])) _
    refine XS.iconst X8.here hx rfl (hb hby at_58) ?_
    show Steps p.tables e below (T8.setTop (mkF m 59 #[.val (.int p1), .val (.long q2), .second, .val (.long q3), .second, .val (.long q4), .second, .val (.long q5), .second, .val (.int (4 : Int32)), .val (.ref b6), .val (.long (((0 : Int64) + q2) + q3)), .second, .unset, .unset, .unset] [(.int (2 : Int32)), (.ref b6)])) _
    refine XS.lload X8.here hx rfl (hb hby at_59) rfl ?_
    show Steps p.tables e below (T8.setTop (mkF m 61 #[.val (.int p1), .val (.long q2), .second, .val (.long q3), .second, .val (.long q4), .second, .val (.long q5), .second, .val (.int (4 : Int32)), .val (.ref b6), .val (.long (((0 : Int64) + q2) + q3)), .second, .unset, .unset, .unset] [(.long q4), (.int (2 : Int32)), (.ref b6)])) _
    refine st9 _ ?_
    show Steps p.tables e below (T9.setTop (mkF m 62 #[.val (.int p1), .val (.long q2), .second, .val (.long q3), .second, .val (.long q4), .second, .val (.long q5), .second, .val (.int (4 : Int32)), .val (.ref b6), .val (.long (((0 : Int64) + q2) + q3)), .second, .unset, .unset, .unset] [])) _
    refine XS.lload X9.here hx rfl (hb hby at_62) rfl ?_
    show Steps p.tables e below (T9.setTop (mkF m 64 #[.val (.int p1), .val (.long q2), .second, .val (.long q3), .second, .val (.long q4), .second, .val (.long q5), .second, .val (.int (4 : Int32)), .val (.ref b6), .val (.long (((0 : Int64) + q2) + q3)), .second, .unset, .unset, .unset] [(.long (((0 : Int64) + q2) + q3))])) _
    refine XS.lload X9.here hx rfl (hb hby at_64) rfl ?_
    show Steps p.tables e below (T9.setTop (mkF m 66 #[.val (.int p1), .val (.long q2), .second, .val (.long q3), .second, .val (.long q4), .second, .val (.long q5), .second, .val (.int (4 : Int32)), .val (.ref b6), .val (.long (((0 : Int64) + q2) + q3)), .second, .unset, .unset, .unset] [(.long q4), (.long (((0 : Int64) + q2) + q3))])) _
    refine XS.ladd X9.here hx rfl (hb hby at_66) rfl ?_
    show Steps p.tables e below (T9.setTop (mkF m 67 #[.val (.int p1), .val (.long q2), .second, .val (.long q3), .second, .val (.long q4), .second, .val (.long q5), .second, .val (.int (4 : Int32)), .val (.ref b6), .val (.long (((0 : Int64) + q2) + q3)), .second, .unset, .unset, .unset] [(.long ((((0 : Int64) + q2) + q3) + q4))])) _
    refine XS.lstore X9.here hx rfl (hb hby at_67) rfl (l' := #[.val (.int p1), .val (.long q2), .second, .val (.long q3), .second, .val (.long q4), .second, .val (.long q5), .second, .val (.int (4 : Int32)), .val (.ref b6), .val (.long ((((0 : Int64) + q2) + q3) + q4)), .second, .unset, .unset, .unset]) rfl ?_
    show Steps p.tables e below (T9.setTop (mkF m 69 #[.val (.int p1), .val (.long q2), .second, .val (.long q3), .second, .val (.long q4), .second, .val (.long q5), .second, .val (.int (4 : Int32)), .val (.ref b6), .val (.long ((((0 : Int64) + q2) + q3) + q4)), .second, .unset, .unset, .unset] [])) _
    refine XS.iload X9.here hx rfl (hb hby at_69) rfl ?_
    show Steps p.tables e below (T9.setTop (mkF m 71 #[.val (.int p1), .val (.long q2), .second, .val (.long q3), .second, .val (.long q4), .second, .val (.long q5), .second, .val (.int (4 : Int32)), .val (.ref b6), .val (.long ((((0 : Int64) + q2) + q3) + q4)), .second, .unset, .unset, .unset] [(.int (4 : Int32))])) _
    refine XS.iconst X9.here hx rfl (hb hby at_71) ?_
    show Steps p.tables e below (T9.setTop (mkF m 72 #[.val (.int p1), .val (.long q2), .second, .val (.long q3), .second, .val (.long q4), .second, .val (.long q5), .second, .val (.int (4 : Int32)), .val (.ref b6), .val (.long ((((0 : Int64) + q2) + q3) + q4)), .second, .unset, .unset, .unset] [(.int (3 : Int32)), (.int (4 : Int32))])) _
    refine XS.icmpNo X9.here hx rfl (hb hby at_72) rfl (tlt hc72).2.2.2 ?_
    show Steps p.tables e below (T9.setTop (mkF m 75 #[.val (.int p1), .val (.long q2), .second, .val (.long q3), .second, .val (.long q4), .second, .val (.long q5), .second, .val (.int (4 : Int32)), .val (.ref b6), .val (.long ((((0 : Int64) + q2) + q3) + q4)), .second, .unset, .unset, .unset] [])) _
    refine XS.aload X9.here hx rfl (hb hby at_75) rfl rfl ?_
    show Steps p.tables e below (T9.setTop (mkF m 77 #[.val (.int p1), .val (.long q2), .second, .val (.long q3), .second, .val (.long q4), .second, .val (.long q5), .second, .val (.int (4 : Int32)), .val (.ref b6), .val (.long ((((0 : Int64) + q2) + q3) + q4)), .second, .unset, .unset, .unset] [(.ref b6)])) _
    refine XS.iconst X9.here hx rfl (hb hby at_77) ?_
    show Steps p.tables e below (T9.setTop (mkF m 78 #[.val (.int p1), .val (.long q2), .second, .val (.long q3), .second, .val (.long q4), .second, .val (.long q5), .second, .val (.int (4 : Int32)), .val (.ref b6), .val (.long ((((0 : Int64) + q2) + q3) + q4)), .second, .unset, .unset, .unset] [(.int (3 : Int32)), (.ref b6)])) _
    refine XS.lload X9.here hx rfl (hb hby at_78) rfl ?_
    show Steps p.tables e below (T9.setTop (mkF m 80 #[.val (.int p1), .val (.long q2), .second, .val (.long q3), .second, .val (.long q4), .second, .val (.long q5), .second, .val (.int (4 : Int32)), .val (.ref b6), .val (.long ((((0 : Int64) + q2) + q3) + q4)), .second, .unset, .unset, .unset] [(.long q5), (.int (3 : Int32)), (.ref b6)])) _
    refine st10 _ ?_
    show Steps p.tables e below (T10.setTop (mkF m 81 #[.val (.int p1), .val (.long q2), .second, .val (.long q3), .second, .val (.long q4), .second, .val (.long q5), .second, .val (.int (4 : Int32)), .val (.ref b6), .val (.long ((((0 : Int64) + q2) + q3) + q4)), .second, .unset, .unset, .unset] [])) _
    refine XS.lload X10.here hx rfl (hb hby at_81) rfl ?_
    show Steps p.tables e below (T10.setTop (mkF m 83 #[.val (.int p1), .val (.long q2), .second, .val (.long q3), .second, .val (.long q4), .second, .val (.long q5), .second, .val (.int (4 : Int32)), .val (.ref b6), .val (.long ((((0 : Int64) + q2) + q3) + q4)), .second, .unset, .unset, .unset] [(.long ((((0 : Int64) + q2) + q3) + q4))])) _
    refine XS.lload X10.here hx rfl (hb hby at_83) rfl ?_
    show Steps p.tables e below (T10.setTop (mkF m 85 #[.val (.int p1), .val (.long q2), .second, .val (.long q3), .second, .val (.long q4), .second, .val (.long q5), .second, .val (.int (4 : Int32)), .val (.ref b6), .val (.long ((((0 : Int64) + q2) + q3) + q4)), .second, .unset, .unset, .unset] [(.long q5), (.long ((((0 : Int64) + q2) + q3) + q4))])) _
    refine XS.ladd X10.here hx rfl (hb hby at_85) rfl ?_
    show Steps p.tables e below (T10.setTop (mkF m 86 #[.val (.int p1), .val (.long q2), .second, .val (.long q3), .second, .val (.long q4), .second, .val (.long q5), .second, .val (.int (4 : Int32)), .val (.ref b6), .val (.long ((((0 : Int64) + q2) + q3) + q4)), .second, .unset, .unset, .unset] [(.long (((((0 : Int64) + q2) + q3) + q4) + q5))])) _
    refine XS.lstore X10.here hx rfl (hb hby at_86) rfl (l' := #[.val (.int p1), .val (.long q2), .second, .val (.long q3), .second, .val (.long q4), .second, .val (.long q5), .second, .val (.int (4 : Int32)), .val (.ref b6), .val (.long (((((0 : Int64) + q2) + q3) + q4) + q5)), .second, .unset, .unset, .unset]) rfl ?_
    show Steps p.tables e below (T10.setTop (mkF m 88 #[.val (.int p1), .val (.long q2), .second, .val (.long q3), .second, .val (.long q4), .second, .val (.long q5), .second, .val (.int (4 : Int32)), .val (.ref b6), .val (.long (((((0 : Int64) + q2) + q3) + q4) + q5)), .second, .unset, .unset, .unset] [])) _
    refine XS.aload X10.here hx rfl (hb hby at_88) rfl rfl ?_
    show Steps p.tables e below (T10.setTop (mkF m 90 #[.val (.int p1), .val (.long q2), .second, .val (.long q3), .second, .val (.long q4), .second, .val (.long q5), .second, .val (.int (4 : Int32)), .val (.ref b6), .val (.long (((((0 : Int64) + q2) + q3) + q4) + q5)), .second, .unset, .unset, .unset] [(.ref b6)])) _
    refine st11 _ ?_
    show Steps p.tables e below (T11.setTop (mkF m 93 #[.val (.int p1), .val (.long q2), .second, .val (.long q3), .second, .val (.long q4), .second, .val (.long q5), .second, .val (.int (4 : Int32)), .val (.ref b6), .val (.long (((((0 : Int64) + q2) + q3) + q4) + q5)), .second, .unset, .unset, .unset] [(.long (((((0 : Int64) + q2) + q3) + q4) + q5))])) _
    refine XS.lstore X11.here hx rfl (hb hby at_93) rfl (l' := #[.val (.int p1), .val (.long q2), .second, .val (.long q3), .second, .val (.long q4), .second, .val (.long q5), .second, .val (.int (4 : Int32)), .val (.ref b6), .val (.long (((((0 : Int64) + q2) + q3) + q4) + q5)), .second, .val (.long (((((0 : Int64) + q2) + q3) + q4) + q5)), .second, .unset]) rfl ?_
    show Steps p.tables e below (T11.setTop (mkF m 95 #[.val (.int p1), .val (.long q2), .second, .val (.long q3), .second, .val (.long q4), .second, .val (.long q5), .second, .val (.int (4 : Int32)), .val (.ref b6), .val (.long (((((0 : Int64) + q2) + q3) + q4) + q5)), .second, .val (.long (((((0 : Int64) + q2) + q3) + q4) + q5)), .second, .unset] [])) _
    refine XS.iconst X11.here hx rfl (hb hby at_95) ?_
    show Steps p.tables e below (T11.setTop (mkF m 96 #[.val (.int p1), .val (.long q2), .second, .val (.long q3), .second, .val (.long q4), .second, .val (.long q5), .second, .val (.int (4 : Int32)), .val (.ref b6), .val (.long (((((0 : Int64) + q2) + q3) + q4) + q5)), .second, .val (.long (((((0 : Int64) + q2) + q3) + q4) + q5)), .second, .unset] [(.int (1 : Int32))])) _
    refine XS.istore X11.here hx rfl (hb hby at_96) rfl (l' := #[.val (.int p1), .val (.long q2), .second, .val (.long q3), .second, .val (.long q4), .second, .val (.long q5), .second, .val (.int (4 : Int32)), .val (.ref b6), .val (.long (((((0 : Int64) + q2) + q3) + q4) + q5)), .second, .val (.long (((((0 : Int64) + q2) + q3) + q4) + q5)), .second, .val (.int (1 : Int32))]) rfl ?_
    show Steps p.tables e below (T11.setTop (mkF m 98 #[.val (.int p1), .val (.long q2), .second, .val (.long q3), .second, .val (.long q4), .second, .val (.long q5), .second, .val (.int (4 : Int32)), .val (.ref b6), .val (.long (((((0 : Int64) + q2) + q3) + q4) + q5)), .second, .val (.long (((((0 : Int64) + q2) + q3) + q4) + q5)), .second, .val (.int (1 : Int32))] [])) _
    refine XS.iload X11.here hx rfl (hb hby at_98) rfl ?_
    show Steps p.tables e below (T11.setTop (mkF m 100 #[.val (.int p1), .val (.long q2), .second, .val (.long q3), .second, .val (.long q4), .second, .val (.long q5), .second, .val (.int (4 : Int32)), .val (.ref b6), .val (.long (((((0 : Int64) + q2) + q3) + q4) + q5)), .second, .val (.long (((((0 : Int64) + q2) + q3) + q4) + q5)), .second, .val (.int (1 : Int32))] [(.int (4 : Int32))])) _
    refine XS.ifNo X11.here hx rfl (hb hby at_100) rfl ((if0 _ _).trans (tlt hc100).2.2.2) ?_
    show Steps p.tables e below (T11.setTop (mkF m 103 #[.val (.int p1), .val (.long q2), .second, .val (.long q3), .second, .val (.long q4), .second, .val (.long q5), .second, .val (.int (4 : Int32)), .val (.ref b6), .val (.long (((((0 : Int64) + q2) + q3) + q4) + q5)), .second, .val (.long (((((0 : Int64) + q2) + q3) + q4) + q5)), .second, .val (.int (1 : Int32))] [])) _
    refine XS.aload X11.here hx rfl (hb hby at_103) rfl rfl ?_
    show Steps p.tables e below (T11.setTop (mkF m 105 #[.val (.int p1), .val (.long q2), .second, .val (.long q3), .second, .val (.long q4), .second, .val (.long q5), .second, .val (.int (4 : Int32)), .val (.ref b6), .val (.long (((((0 : Int64) + q2) + q3) + q4) + q5)), .second, .val (.long (((((0 : Int64) + q2) + q3) + q4) + q5)), .second, .val (.int (1 : Int32))] [(.ref b6)])) _
    refine XS.iconst X11.here hx rfl (hb hby at_105) ?_
    show Steps p.tables e below (T11.setTop (mkF m 106 #[.val (.int p1), .val (.long q2), .second, .val (.long q3), .second, .val (.long q4), .second, .val (.long q5), .second, .val (.int (4 : Int32)), .val (.ref b6), .val (.long (((((0 : Int64) + q2) + q3) + q4) + q5)), .second, .val (.long (((((0 : Int64) + q2) + q3) + q4) + q5)), .second, .val (.int (1 : Int32))] [(.int (0 : Int32)), (.ref b6)])) _
    refine X11.laload hx (j := (0 : Int32)) (v := (.long q2)) (by exact Ar_b6.1) (State.isArrayOf_alike hZ.alike Ar_b6.2.1) Ar_b6.2.2 hin106 hat106 (g := (mkF m 106 #[.val (.int p1), .val (.long q2), .second, .val (.long q3), .second, .val (.long q4), .second, .val (.long q5), .second, .val (.int (4 : Int32)), .val (.ref b6), .val (.long (((((0 : Int64) + q2) + q3) + q4) + q5)), .second, .val (.long (((((0 : Int64) + q2) + q3) + q4) + q5)), .second, .val (.int (1 : Int32))] [(.int (0 : Int32)), (.ref b6)])) rfl rfl (hb hby at_106) _ ?_
    show Steps p.tables e below (T11.setTop (mkF m 107 #[.val (.int p1), .val (.long q2), .second, .val (.long q3), .second, .val (.long q4), .second, .val (.long q5), .second, .val (.int (4 : Int32)), .val (.ref b6), .val (.long (((((0 : Int64) + q2) + q3) + q4) + q5)), .second, .val (.long (((((0 : Int64) + q2) + q3) + q4) + q5)), .second, .val (.int (1 : Int32))] [(.long q2)])) _
    refine XS.lloadN X11.here hx rfl (hb hby at_107) rfl ?_
    show Steps p.tables e below (T11.setTop (mkF m 108 #[.val (.int p1), .val (.long q2), .second, .val (.long q3), .second, .val (.long q4), .second, .val (.long q5), .second, .val (.int (4 : Int32)), .val (.ref b6), .val (.long (((((0 : Int64) + q2) + q3) + q4) + q5)), .second, .val (.long (((((0 : Int64) + q2) + q3) + q4) + q5)), .second, .val (.int (1 : Int32))] [(.long q2), (.long q2)])) _
    refine XS.lcmp X11.here hx rfl (hb hby at_108) rfl ?_
    show Steps p.tables e below (T11.setTop (mkF m 109 #[.val (.int p1), .val (.long q2), .second, .val (.long q3), .second, .val (.long q4), .second, .val (.long q5), .second, .val (.int (4 : Int32)), .val (.ref b6), .val (.long (((((0 : Int64) + q2) + q3) + q4) + q5)), .second, .val (.long (((((0 : Int64) + q2) + q3) + q4) + q5)), .second, .val (.int (1 : Int32))] [(.int (lcmpW q2 q2))])) _
    refine XS.ifYes X11.here hx rfl (pc0 := 109) (pc' := 115) rfl (hb hby at_109) rfl ((if0 _ _).trans (teq hc109).1) (by decide) (by decide) ?_
    show Steps p.tables e below (T11.setTop (mkF m 115 #[.val (.int p1), .val (.long q2), .second, .val (.long q3), .second, .val (.long q4), .second, .val (.long q5), .second, .val (.int (4 : Int32)), .val (.ref b6), .val (.long (((((0 : Int64) + q2) + q3) + q4) + q5)), .second, .val (.long (((((0 : Int64) + q2) + q3) + q4) + q5)), .second, .val (.int (1 : Int32))] [])) _
    refine XS.iload X11.here hx rfl (hb hby at_115) rfl ?_
    show Steps p.tables e below (T11.setTop (mkF m 117 #[.val (.int p1), .val (.long q2), .second, .val (.long q3), .second, .val (.long q4), .second, .val (.long q5), .second, .val (.int (4 : Int32)), .val (.ref b6), .val (.long (((((0 : Int64) + q2) + q3) + q4) + q5)), .second, .val (.long (((((0 : Int64) + q2) + q3) + q4) + q5)), .second, .val (.int (1 : Int32))] [(.int (4 : Int32))])) _
    refine XS.iconst X11.here hx rfl (hb hby at_117) ?_
    show Steps p.tables e below (T11.setTop (mkF m 118 #[.val (.int p1), .val (.long q2), .second, .val (.long q3), .second, .val (.long q4), .second, .val (.long q5), .second, .val (.int (4 : Int32)), .val (.ref b6), .val (.long (((((0 : Int64) + q2) + q3) + q4) + q5)), .second, .val (.long (((((0 : Int64) + q2) + q3) + q4) + q5)), .second, .val (.int (1 : Int32))] [(.int (1 : Int32)), (.int (4 : Int32))])) _
    refine XS.icmpNo X11.here hx rfl (hb hby at_118) rfl (tlt hc118).2.2.2 ?_
    show Steps p.tables e below (T11.setTop (mkF m 121 #[.val (.int p1), .val (.long q2), .second, .val (.long q3), .second, .val (.long q4), .second, .val (.long q5), .second, .val (.int (4 : Int32)), .val (.ref b6), .val (.long (((((0 : Int64) + q2) + q3) + q4) + q5)), .second, .val (.long (((((0 : Int64) + q2) + q3) + q4) + q5)), .second, .val (.int (1 : Int32))] [])) _
    refine XS.aload X11.here hx rfl (hb hby at_121) rfl rfl ?_
    show Steps p.tables e below (T11.setTop (mkF m 123 #[.val (.int p1), .val (.long q2), .second, .val (.long q3), .second, .val (.long q4), .second, .val (.long q5), .second, .val (.int (4 : Int32)), .val (.ref b6), .val (.long (((((0 : Int64) + q2) + q3) + q4) + q5)), .second, .val (.long (((((0 : Int64) + q2) + q3) + q4) + q5)), .second, .val (.int (1 : Int32))] [(.ref b6)])) _
    refine XS.iconst X11.here hx rfl (hb hby at_123) ?_
    show Steps p.tables e below (T11.setTop (mkF m 124 #[.val (.int p1), .val (.long q2), .second, .val (.long q3), .second, .val (.long q4), .second, .val (.long q5), .second, .val (.int (4 : Int32)), .val (.ref b6), .val (.long (((((0 : Int64) + q2) + q3) + q4) + q5)), .second, .val (.long (((((0 : Int64) + q2) + q3) + q4) + q5)), .second, .val (.int (1 : Int32))] [(.int (1 : Int32)), (.ref b6)])) _
    refine X11.laload hx (j := (1 : Int32)) (v := (.long q3)) (by exact Ar_b6.1) (State.isArrayOf_alike hZ.alike Ar_b6.2.1) Ar_b6.2.2 hin124 hat124 (g := (mkF m 124 #[.val (.int p1), .val (.long q2), .second, .val (.long q3), .second, .val (.long q4), .second, .val (.long q5), .second, .val (.int (4 : Int32)), .val (.ref b6), .val (.long (((((0 : Int64) + q2) + q3) + q4) + q5)), .second, .val (.long (((((0 : Int64) + q2) + q3) + q4) + q5)), .second, .val (.int (1 : Int32))] [(.int (1 : Int32)), (.ref b6)])) rfl rfl (hb hby at_124) _ ?_
    show Steps p.tables e below (T11.setTop (mkF m 125 #[.val (.int p1), .val (.long q2), .second, .val (.long q3), .second, .val (.long q4), .second, .val (.long q5), .second, .val (.int (4 : Int32)), .val (.ref b6), .val (.long (((((0 : Int64) + q2) + q3) + q4) + q5)), .second, .val (.long (((((0 : Int64) + q2) + q3) + q4) + q5)), .second, .val (.int (1 : Int32))] [(.long q3)])) _
    refine XS.lloadN X11.here hx rfl (hb hby at_125) rfl ?_
    show Steps p.tables e below (T11.setTop (mkF m 126 #[.val (.int p1), .val (.long q2), .second, .val (.long q3), .second, .val (.long q4), .second, .val (.long q5), .second, .val (.int (4 : Int32)), .val (.ref b6), .val (.long (((((0 : Int64) + q2) + q3) + q4) + q5)), .second, .val (.long (((((0 : Int64) + q2) + q3) + q4) + q5)), .second, .val (.int (1 : Int32))] [(.long q3), (.long q3)])) _
    refine XS.lcmp X11.here hx rfl (hb hby at_126) rfl ?_
    show Steps p.tables e below (T11.setTop (mkF m 127 #[.val (.int p1), .val (.long q2), .second, .val (.long q3), .second, .val (.long q4), .second, .val (.long q5), .second, .val (.int (4 : Int32)), .val (.ref b6), .val (.long (((((0 : Int64) + q2) + q3) + q4) + q5)), .second, .val (.long (((((0 : Int64) + q2) + q3) + q4) + q5)), .second, .val (.int (1 : Int32))] [(.int (lcmpW q3 q3))])) _
    refine XS.ifYes X11.here hx rfl (pc0 := 127) (pc' := 133) rfl (hb hby at_127) rfl ((if0 _ _).trans (teq hc127).1) (by decide) (by decide) ?_
    show Steps p.tables e below (T11.setTop (mkF m 133 #[.val (.int p1), .val (.long q2), .second, .val (.long q3), .second, .val (.long q4), .second, .val (.long q5), .second, .val (.int (4 : Int32)), .val (.ref b6), .val (.long (((((0 : Int64) + q2) + q3) + q4) + q5)), .second, .val (.long (((((0 : Int64) + q2) + q3) + q4) + q5)), .second, .val (.int (1 : Int32))] [])) _
    refine XS.iload X11.here hx rfl (hb hby at_133) rfl ?_
    show Steps p.tables e below (T11.setTop (mkF m 135 #[.val (.int p1), .val (.long q2), .second, .val (.long q3), .second, .val (.long q4), .second, .val (.long q5), .second, .val (.int (4 : Int32)), .val (.ref b6), .val (.long (((((0 : Int64) + q2) + q3) + q4) + q5)), .second, .val (.long (((((0 : Int64) + q2) + q3) + q4) + q5)), .second, .val (.int (1 : Int32))] [(.int (4 : Int32))])) _
    refine XS.iconst X11.here hx rfl (hb hby at_135) ?_
    show Steps p.tables e below (T11.setTop (mkF m 136 #[.val (.int p1), .val (.long q2), .second, .val (.long q3), .second, .val (.long q4), .second, .val (.long q5), .second, .val (.int (4 : Int32)), .val (.ref b6), .val (.long (((((0 : Int64) + q2) + q3) + q4) + q5)), .second, .val (.long (((((0 : Int64) + q2) + q3) + q4) + q5)), .second, .val (.int (1 : Int32))] [(.int (2 : Int32)), (.int (4 : Int32))])) _
    refine XS.icmpNo X11.here hx rfl (hb hby at_136) rfl (tlt hc136).2.2.2 ?_
    show Steps p.tables e below (T11.setTop (mkF m 139 #[.val (.int p1), .val (.long q2), .second, .val (.long q3), .second, .val (.long q4), .second, .val (.long q5), .second, .val (.int (4 : Int32)), .val (.ref b6), .val (.long (((((0 : Int64) + q2) + q3) + q4) + q5)), .second, .val (.long (((((0 : Int64) + q2) + q3) + q4) + q5)), .second, .val (.int (1 : Int32))] [])) _
    refine XS.aload X11.here hx rfl (hb hby at_139) rfl rfl ?_
    show Steps p.tables e below (T11.setTop (mkF m 141 #[.val (.int p1), .val (.long q2), .second, .val (.long q3), .second, .val (.long q4), .second, .val (.long q5), .second, .val (.int (4 : Int32)), .val (.ref b6), .val (.long (((((0 : Int64) + q2) + q3) + q4) + q5)), .second, .val (.long (((((0 : Int64) + q2) + q3) + q4) + q5)), .second, .val (.int (1 : Int32))] [(.ref b6)])) _
    refine XS.iconst X11.here hx rfl (hb hby at_141) ?_
    show Steps p.tables e below (T11.setTop (mkF m 142 #[.val (.int p1), .val (.long q2), .second, .val (.long q3), .second, .val (.long q4), .second, .val (.long q5), .second, .val (.int (4 : Int32)), .val (.ref b6), .val (.long (((((0 : Int64) + q2) + q3) + q4) + q5)), .second, .val (.long (((((0 : Int64) + q2) + q3) + q4) + q5)), .second, .val (.int (1 : Int32))] [(.int (2 : Int32)), (.ref b6)])) _
    refine X11.laload hx (j := (2 : Int32)) (v := (.long q4)) (by exact Ar_b6.1) (State.isArrayOf_alike hZ.alike Ar_b6.2.1) Ar_b6.2.2 hin142 hat142 (g := (mkF m 142 #[.val (.int p1), .val (.long q2), .second, .val (.long q3), .second, .val (.long q4), .second, .val (.long q5), .second, .val (.int (4 : Int32)), .val (.ref b6), .val (.long (((((0 : Int64) + q2) + q3) + q4) + q5)), .second, .val (.long (((((0 : Int64) + q2) + q3) + q4) + q5)), .second, .val (.int (1 : Int32))] [(.int (2 : Int32)), (.ref b6)])) rfl rfl (hb hby at_142) _ ?_
    show Steps p.tables e below (T11.setTop (mkF m 143 #[.val (.int p1), .val (.long q2), .second, .val (.long q3), .second, .val (.long q4), .second, .val (.long q5), .second, .val (.int (4 : Int32)), .val (.ref b6), .val (.long (((((0 : Int64) + q2) + q3) + q4) + q5)), .second, .val (.long (((((0 : Int64) + q2) + q3) + q4) + q5)), .second, .val (.int (1 : Int32))] [(.long q4)])) _
    refine XS.lload X11.here hx rfl (hb hby at_143) rfl ?_
    show Steps p.tables e below (T11.setTop (mkF m 145 #[.val (.int p1), .val (.long q2), .second, .val (.long q3), .second, .val (.long q4), .second, .val (.long q5), .second, .val (.int (4 : Int32)), .val (.ref b6), .val (.long (((((0 : Int64) + q2) + q3) + q4) + q5)), .second, .val (.long (((((0 : Int64) + q2) + q3) + q4) + q5)), .second, .val (.int (1 : Int32))] [(.long q4), (.long q4)])) _
    refine XS.lcmp X11.here hx rfl (hb hby at_145) rfl ?_
    show Steps p.tables e below (T11.setTop (mkF m 146 #[.val (.int p1), .val (.long q2), .second, .val (.long q3), .second, .val (.long q4), .second, .val (.long q5), .second, .val (.int (4 : Int32)), .val (.ref b6), .val (.long (((((0 : Int64) + q2) + q3) + q4) + q5)), .second, .val (.long (((((0 : Int64) + q2) + q3) + q4) + q5)), .second, .val (.int (1 : Int32))] [(.int (lcmpW q4 q4))])) _
    refine XS.ifYes X11.here hx rfl (pc0 := 146) (pc' := 152) rfl (hb hby at_146) rfl ((if0 _ _).trans (teq hc146).1) (by decide) (by decide) ?_
    show Steps p.tables e below (T11.setTop (mkF m 152 #[.val (.int p1), .val (.long q2), .second, .val (.long q3), .second, .val (.long q4), .second, .val (.long q5), .second, .val (.int (4 : Int32)), .val (.ref b6), .val (.long (((((0 : Int64) + q2) + q3) + q4) + q5)), .second, .val (.long (((((0 : Int64) + q2) + q3) + q4) + q5)), .second, .val (.int (1 : Int32))] [])) _
    refine XS.iload X11.here hx rfl (hb hby at_152) rfl ?_
    show Steps p.tables e below (T11.setTop (mkF m 154 #[.val (.int p1), .val (.long q2), .second, .val (.long q3), .second, .val (.long q4), .second, .val (.long q5), .second, .val (.int (4 : Int32)), .val (.ref b6), .val (.long (((((0 : Int64) + q2) + q3) + q4) + q5)), .second, .val (.long (((((0 : Int64) + q2) + q3) + q4) + q5)), .second, .val (.int (1 : Int32))] [(.int (4 : Int32))])) _
    refine XS.iconst X11.here hx rfl (hb hby at_154) ?_
    show Steps p.tables e below (T11.setTop (mkF m 155 #[.val (.int p1), .val (.long q2), .second, .val (.long q3), .second, .val (.long q4), .second, .val (.long q5), .second, .val (.int (4 : Int32)), .val (.ref b6), .val (.long (((((0 : Int64) + q2) + q3) + q4) + q5)), .second, .val (.long (((((0 : Int64) + q2) + q3) + q4) + q5)), .second, .val (.int (1 : Int32))] [(.int (3 : Int32)), (.int (4 : Int32))])) _
    refine XS.icmpNo X11.here hx rfl (hb hby at_155) rfl (tlt hc155).2.2.2 ?_
    show Steps p.tables e below (T11.setTop (mkF m 158 #[.val (.int p1), .val (.long q2), .second, .val (.long q3), .second, .val (.long q4), .second, .val (.long q5), .second, .val (.int (4 : Int32)), .val (.ref b6), .val (.long (((((0 : Int64) + q2) + q3) + q4) + q5)), .second, .val (.long (((((0 : Int64) + q2) + q3) + q4) + q5)), .second, .val (.int (1 : Int32))] [])) _
    refine XS.aload X11.here hx rfl (hb hby at_158) rfl rfl ?_
    show Steps p.tables e below (T11.setTop (mkF m 160 #[.val (.int p1), .val (.long q2), .second, .val (.long q3), .second, .val (.long q4), .second, .val (.long q5), .second, .val (.int (4 : Int32)), .val (.ref b6), .val (.long (((((0 : Int64) + q2) + q3) + q4) + q5)), .second, .val (.long (((((0 : Int64) + q2) + q3) + q4) + q5)), .second, .val (.int (1 : Int32))] [(.ref b6)])) _
    refine XS.iconst X11.here hx rfl (hb hby at_160) ?_
    show Steps p.tables e below (T11.setTop (mkF m 161 #[.val (.int p1), .val (.long q2), .second, .val (.long q3), .second, .val (.long q4), .second, .val (.long q5), .second, .val (.int (4 : Int32)), .val (.ref b6), .val (.long (((((0 : Int64) + q2) + q3) + q4) + q5)), .second, .val (.long (((((0 : Int64) + q2) + q3) + q4) + q5)), .second, .val (.int (1 : Int32))] [(.int (3 : Int32)), (.ref b6)])) _
    refine X11.laload hx (j := (3 : Int32)) (v := (.long q5)) (by exact Ar_b6.1) (State.isArrayOf_alike hZ.alike Ar_b6.2.1) Ar_b6.2.2 hin161 hat161 (g := (mkF m 161 #[.val (.int p1), .val (.long q2), .second, .val (.long q3), .second, .val (.long q4), .second, .val (.long q5), .second, .val (.int (4 : Int32)), .val (.ref b6), .val (.long (((((0 : Int64) + q2) + q3) + q4) + q5)), .second, .val (.long (((((0 : Int64) + q2) + q3) + q4) + q5)), .second, .val (.int (1 : Int32))] [(.int (3 : Int32)), (.ref b6)])) rfl rfl (hb hby at_161) _ ?_
    show Steps p.tables e below (T11.setTop (mkF m 162 #[.val (.int p1), .val (.long q2), .second, .val (.long q3), .second, .val (.long q4), .second, .val (.long q5), .second, .val (.int (4 : Int32)), .val (.ref b6), .val (.long (((((0 : Int64) + q2) + q3) + q4) + q5)), .second, .val (.long (((((0 : Int64) + q2) + q3) + q4) + q5)), .second, .val (.int (1 : Int32))] [(.long q5)])) _
    refine XS.lload X11.here hx rfl (hb hby at_162) rfl ?_
    show Steps p.tables e below (T11.setTop (mkF m 164 #[.val (.int p1), .val (.long q2), .second, .val (.long q3), .second, .val (.long q4), .second, .val (.long q5), .second, .val (.int (4 : Int32)), .val (.ref b6), .val (.long (((((0 : Int64) + q2) + q3) + q4) + q5)), .second, .val (.long (((((0 : Int64) + q2) + q3) + q4) + q5)), .second, .val (.int (1 : Int32))] [(.long q5), (.long q5)])) _
    refine XS.lcmp X11.here hx rfl (hb hby at_164) rfl ?_
    show Steps p.tables e below (T11.setTop (mkF m 165 #[.val (.int p1), .val (.long q2), .second, .val (.long q3), .second, .val (.long q4), .second, .val (.long q5), .second, .val (.int (4 : Int32)), .val (.ref b6), .val (.long (((((0 : Int64) + q2) + q3) + q4) + q5)), .second, .val (.long (((((0 : Int64) + q2) + q3) + q4) + q5)), .second, .val (.int (1 : Int32))] [(.int (lcmpW q5 q5))])) _
    refine XS.ifYes X11.here hx rfl (pc0 := 165) (pc' := 171) rfl (hb hby at_165) rfl ((if0 _ _).trans (teq hc165).1) (by decide) (by decide) ?_
    show Steps p.tables e below (T11.setTop (mkF m 171 #[.val (.int p1), .val (.long q2), .second, .val (.long q3), .second, .val (.long q4), .second, .val (.long q5), .second, .val (.int (4 : Int32)), .val (.ref b6), .val (.long (((((0 : Int64) + q2) + q3) + q4) + q5)), .second, .val (.long (((((0 : Int64) + q2) + q3) + q4) + q5)), .second, .val (.int (1 : Int32))] [])) _
    refine XS.lload X11.here hx rfl (hb hby at_171) rfl ?_
    show Steps p.tables e below (T11.setTop (mkF m 173 #[.val (.int p1), .val (.long q2), .second, .val (.long q3), .second, .val (.long q4), .second, .val (.long q5), .second, .val (.int (4 : Int32)), .val (.ref b6), .val (.long (((((0 : Int64) + q2) + q3) + q4) + q5)), .second, .val (.long (((((0 : Int64) + q2) + q3) + q4) + q5)), .second, .val (.int (1 : Int32))] [(.long (((((0 : Int64) + q2) + q3) + q4) + q5))])) _
    refine XS.lload X11.here hx rfl (hb hby at_173) rfl ?_
    show Steps p.tables e below (T11.setTop (mkF m 175 #[.val (.int p1), .val (.long q2), .second, .val (.long q3), .second, .val (.long q4), .second, .val (.long q5), .second, .val (.int (4 : Int32)), .val (.ref b6), .val (.long (((((0 : Int64) + q2) + q3) + q4) + q5)), .second, .val (.long (((((0 : Int64) + q2) + q3) + q4) + q5)), .second, .val (.int (1 : Int32))] [(.long (((((0 : Int64) + q2) + q3) + q4) + q5)), (.long (((((0 : Int64) + q2) + q3) + q4) + q5))])) _
    refine XS.lcmp X11.here hx rfl (hb hby at_175) rfl ?_
    show Steps p.tables e below (T11.setTop (mkF m 176 #[.val (.int p1), .val (.long q2), .second, .val (.long q3), .second, .val (.long q4), .second, .val (.long q5), .second, .val (.int (4 : Int32)), .val (.ref b6), .val (.long (((((0 : Int64) + q2) + q3) + q4) + q5)), .second, .val (.long (((((0 : Int64) + q2) + q3) + q4) + q5)), .second, .val (.int (1 : Int32))] [(.int (lcmpW (((((0 : Int64) + q2) + q3) + q4) + q5) (((((0 : Int64) + q2) + q3) + q4) + q5)))])) _
    refine XS.ifNo X11.here hx rfl (hb hby at_176) rfl ((if0 _ _).trans (teq ((lw_eq _ _).2 rfl : (lcmpW (((((0 : Int64) + q2) + q3) + q4) + q5) (((((0 : Int64) + q2) + q3) + q4) + q5)) = (0 : Int32))).2) ?_
    show Steps p.tables e below (T11.setTop (mkF m 179 #[.val (.int p1), .val (.long q2), .second, .val (.long q3), .second, .val (.long q4), .second, .val (.long q5), .second, .val (.int (4 : Int32)), .val (.ref b6), .val (.long (((((0 : Int64) + q2) + q3) + q4) + q5)), .second, .val (.long (((((0 : Int64) + q2) + q3) + q4) + q5)), .second, .val (.int (1 : Int32))] [])) _
    refine XS.iload X11.here hx rfl (hb hby at_179) rfl ?_
    show Steps p.tables e below (T11.setTop (mkF m 181 #[.val (.int p1), .val (.long q2), .second, .val (.long q3), .second, .val (.long q4), .second, .val (.long q5), .second, .val (.int (4 : Int32)), .val (.ref b6), .val (.long (((((0 : Int64) + q2) + q3) + q4) + q5)), .second, .val (.long (((((0 : Int64) + q2) + q3) + q4) + q5)), .second, .val (.int (1 : Int32))] [(.int (1 : Int32))])) _
    refine XS.ifNo X11.here hx rfl (hb hby at_181) rfl ((if0 _ _).trans (feq hc181).1) ?_
    show Steps p.tables e below (T11.setTop (mkF m 184 #[.val (.int p1), .val (.long q2), .second, .val (.long q3), .second, .val (.long q4), .second, .val (.long q5), .second, .val (.int (4 : Int32)), .val (.ref b6), .val (.long (((((0 : Int64) + q2) + q3) + q4) + q5)), .second, .val (.long (((((0 : Int64) + q2) + q3) + q4) + q5)), .second, .val (.int (1 : Int32))] [])) _
    refine XS.iconst X11.here hx rfl (hb hby at_184) ?_
    show Steps p.tables e below (T11.setTop (mkF m 185 #[.val (.int p1), .val (.long q2), .second, .val (.long q3), .second, .val (.long q4), .second, .val (.long q5), .second, .val (.int (4 : Int32)), .val (.ref b6), .val (.long (((((0 : Int64) + q2) + q3) + q4) + q5)), .second, .val (.long (((((0 : Int64) + q2) + q3) + q4) + q5)), .second, .val (.int (1 : Int32))] [(.int (1 : Int32))])) _
    refine XS.goto X11.here hx rfl (pc0 := 185) (pc' := 189) rfl (hb hby at_185) (by decide) (by decide) ?_
    show Steps p.tables e below (T11.setTop (mkF m 189 #[.val (.int p1), .val (.long q2), .second, .val (.long q3), .second, .val (.long q4), .second, .val (.long q5), .second, .val (.int (4 : Int32)), .val (.ref b6), .val (.long (((((0 : Int64) + q2) + q3) + q4) + q5)), .second, .val (.long (((((0 : Int64) + q2) + q3) + q4) + q5)), .second, .val (.int (1 : Int32))] [(.int (1 : Int32))])) _
    exact retN X11 hx (t := .boolean) Bd.returns (by simp) (hb hby at_189) hr
  · show Q0 Z p1 q2 q3 q4 q5 h0 n0 _ T11.heap _
    exact ⟨rfl, N11⟩
theorem rm0 (l : Launch) (Z : State) (a0 : Array Value) (hw : ∀ d ∈ tables_1, d.before a0 Z = true) (ws : List Jvm.Cond) (p1 : Int32) (q2 : Int64) (q3 : Int64) (q4 : Int64) (q5 : Int64) (h0 : Heap) (n0 : Nat) (Z0 : n0 ≤ h0.size) :
    MetFree l x (head1 (Jvm.Cond.code x code maxLocals ret :: ws) room_1) (fun a U => a = #[(.int p1), (.long q2), (.long q3), (.long q4), (.long q5)] ∧ Z.Warmed39 U.vm ∧ U.heap = h0) (fun _ _ _ _ _ => True) (fun _ U o U' => ∃ v L, o = .returned v ∧ Q0 Z p1 q2 q3 q4 q5 h0 n0 v U'.heap L ∧ FrameEnd U o U' L room_1.cells room_1.slots) := by
  rcases own_k p1 with h | h | h | h | h
  · exact rm0_0 l Z a0 hw ws p1 q2 q3 q4 q5 h0 n0 Z0 h (by decide) (by decide) (by decide) (by decide) (by decide) (by decide) (by decide) (by decide) (by decide)
  · exact rm0_1 l Z a0 hw ws p1 q2 q3 q4 q5 h0 n0 Z0 h (by decide) (by decide) (by decide) (by decide) (by decide) ((lw_eq _ _).2 rfl) (by decide) (by decide) (by decide) (by decide)
  · exact rm0_2 l Z a0 hw ws p1 q2 q3 q4 q5 h0 n0 Z0 h (by decide) (by decide) (by decide) (by decide) (by decide) ((lw_eq _ _).2 rfl) (by decide) ((lw_eq _ _).2 rfl) (by decide) (by decide) (by decide)
  · exact rm0_3 l Z a0 hw ws p1 q2 q3 q4 q5 h0 n0 Z0 h (by decide) (by decide) (by decide) (by decide) (by decide) ((lw_eq _ _).2 rfl) (by decide) ((lw_eq _ _).2 rfl) (by decide) ((lw_eq _ _).2 rfl) (by decide) (by decide)
  · exact rm0_4 l Z a0 hw ws p1 q2 q3 q4 q5 h0 n0 Z0 h (by decide) (by decide) (by decide) (by decide) (by decide) ((lw_eq _ _).2 rfl) (by decide) ((lw_eq _ _).2 rfl) (by decide) ((lw_eq _ _).2 rfl) (by decide) ((lw_eq _ _).2 rfl) (by decide)
set_option maxRecDepth 65536 in
set_option maxHeartbeats 40000000 in
theorem comes_1 {Post : Tables → Env → Array Value → State → Outcome → State → Prop} (hpost : ∀ tb e args s v u, (limb_1_1.after args s (.returned v) u = true ∧ limb_1_2.after args s (.returned v) u = true ∧ True) → FrameEnd s (.returned v) u (Jvm.fieldLocs frame_1_writes args s ++ Jvm.arrayLocs frame_1_arrays args s ++ Jvm.staticLocs frame_1_statics s) 16 128 → Post tb e args s (.returned v) u) :
    ArmFor flags0 classFile x code maxLocals ret World_1 tables_1 room_1 Calls_1 rest_1 Pre_1 Post := by
  intro l hfl _ _ p e ha hc hk s m args below hf hA hF happ hP
  obtain ⟨hcalls, hrest, hpre⟩ := hP
  obtain ⟨-, -, -, hnamed, -, -, -, hat⟩ := (Spec.applies_iff hf).mp happ
  obtain ⟨hg, hn⟩ := and_e (Cond.before_iff.mp (show (Jvm.Cond.and given_1 narrow_1).before args s = true from hpre))
  obtain ⟨g8, g9⟩ := and_e hg
  obtain ⟨g10, g11⟩ := and_e g9
  obtain ⟨g12, g13⟩ := and_e g11
  obtain ⟨g14, g15⟩ := and_e g13
  obtain ⟨g16, g17⟩ := and_e g15
  obtain ⟨w0, w1, w2, w3, w4, rfl⟩ : ∃ w0 w1 w2 w3 w4 : Value, args = #[w0, w1, w2, w3, w4] := by
    have hs : args.size = 5 := by simpa [Cond.value, given_1] using g8
    obtain ⟨L⟩ := args
    match L, hs with
    | [w0, w1, w2, w3, w4], _ => exact ⟨w0, w1, w2, w3, w4, rfl⟩
  have hw := fun d (hd : d ∈ tables_1) => atoms_spec (ws := Jvm.Cond.code x code maxLocals ret :: tables_1) hat d (List.mem_cons_of_mem _ hd)
  have hfit : Fit s := fun {y c} hc i hi => by
    obtain ⟨ha, rfl⟩ := Array.getElem?_eq_some_iff.mp hc
    have q := List.all_eq_true.mp ((Array.all_eq_true_iff_forall_mem.mp hF) _ (Array.getElem_mem ha)) i (List.mem_range.mpr hi)
    simpa [Array.getElem?_eq_getElem hi] using q
  obtain ⟨i0, ei0⟩ := is_v g10
  obtain rfl : w0 = (.int i0) := Option.some.inj ei0
  obtain ⟨i1, ei1⟩ := isL_v g12
  obtain rfl : w1 = (.long i1) := Option.some.inj ei1
  obtain ⟨i2, ei2⟩ := isL_v g14
  obtain rfl : w2 = (.long i2) := Option.some.inj ei2
  obtain ⟨i3, ei3⟩ := isL_v g16
  obtain rfl : w3 = (.long i3) := Option.some.inj ei3
  obtain ⟨i4, ei4⟩ := isL_v g17
  obtain rfl : w4 = (.long i4) := Option.some.inj ei4
  obtain ⟨n, o, h1, h2, h3, _, L, rfl, ⟨rfl, N⟩, hq⟩ := rm0 l s _ hw tables_1 i0 i1 i2 i3 i4 s.heap s.heap.size (Nat.le_refl _) p e ha hc hk s m _ below hf ((Spec.applies_iff_loose hf).mp happ).1 ⟨rfl, State.Warmed39.refl s, rfl⟩ trivial
  refine ⟨n, _, h1, h2, h3, hpost _ _ _ _ _ _ ⟨Cond.after_iff.mpr rfl, Cond.after_iff.mpr (eq_i res_at (Term.int_eval (1)) rfl), trivial⟩ ⟨hq.1, hq.2.1, (hq.2.2.sift fun y hy => Or.inr (N y hy)).mono (by decide) (by decide)⟩⟩
theorem main_1_1 : Claimed_1_1 := comes_1 fun _ _ _ _ _ _ h hF => ⟨h.1, hF⟩
theorem main_1_2 : Claimed_1_2 := comes_1 fun _ _ _ _ _ _ h hF => ⟨h.2.1, hF⟩
end Jvm.Pilot.@@N@@
namespace Jvm.Pilot.@@N@@
open Jvm Jvm.ClassFile Sem Op Lib Jvm.Free Jvm.Stand Jvm.Pilot.@@N@@.Jvm.D
/-! MADE BY PROGRAM (witnessworld.py) out of the Statement's table words and the real class files: 9 classes; the members and pool entries that the words name. The judged class is class 1, her method 1. -/
namespace start1
open Jvm.ClassFile
def u (s : String) : CpInfo := .utf8 (stringToUtf16 s)
/-- a pool by its gaps: so many unusable entries, then the entry; so many at the end -/
def gap : Nat → List CpInfo → List CpInfo
  | 0, r => r
  | n + 1, r => .unusable :: gap n r
def poolList (es : List (Nat × CpInfo)) (last : Nat) : List CpInfo := es.foldr (fun e r => gap e.1 (e.2 :: r)) (gap last [])
def pool (es : List (Nat × CpInfo)) (last : Nat) : Array CpInfo := ⟨poolList es last⟩
def fileOf (pool : Array CpInfo) (this : Nat) (attrs : Array Attribute := #[]) (ms : Array MethodInfo := #[]) (fl : Nat := 33) (sup : Nat := 0) (ifs : Array Nat := #[]) (fds : Array FieldInfo := #[]) : ClassFile where
  minorVersion := 0
  majorVersion := 65
  constantPool := pool
  accessFlags := fl
  thisClass := this
  superClass := sup
  interfaces := ifs
  fields := fds
  methods := ms
  attributes := attrs
def plain (name : String) (sup : Option ClassId) : Class where
  name := name
  kind := .ordinary
  loader := none
  accessFlags := 33
  super := sup
  interfaces := #[]
  cf := none
  fields := #[]
  methods := #[]
  instanceTypes := #[]
  staticTypes := #[]
  resolved := #[]
  callSites := []
  init := .initialized
  statics := none
  mirror := none

def pool0 : Array CpInfo := pool [(5, u "<init>"), (0, u "()V"), (1, .class_ 10), (1, u "java/lang/Object")] 113

def k0m0 : Method := { name := "<init>", desc := "()V", sig := { parameters := [], returnType := none }, accessFlags := 1, code := none }
/-- java/lang/Object -/
def k0 : Class := { plain "java/lang/Object" none with
  accessFlags := 33
  interfaces := #[]
  cf := some (fileOf pool0 8 #[] #[{ accessFlags := 1, nameIndex := 5, descriptorIndex := 6, attributes := #[] }] 33 0 #[] #[])
  fields := #[]
  methods := #[k0m0]
  instanceTypes := #[]
  staticTypes := #[]
  resolved := Array.replicate 124 none
  statics := none }

def pool1 : Array CpInfo := pool [(2, .class_ 4), (1, u "java/lang/Object"), (0, u "<init>"), (0, u "()V"), (0, .integer 2147483647), (0, .methodref 9 10), (0, .class_ 11), (0, .nameAndType 12 13), (0, u "com/example/turnstile/turnstile/lab/Workers"), (0, u "sum"), (0, u "([J)J"), (0, .class_ 15), (0, u "com/example/turnstile/turnstile/lab/WorkersSumPinLaw"), (2, u "law"), (0, u "(IJJJJ)Z")] 5

def k1m0 : Method := { name := "<init>", desc := "()V", sig := { parameters := [], returnType := none }, accessFlags := 1, code := none }
def k1c1 : Code := { maxStack := 4, maxLocals := 16, code := code, exceptionTable := #[], attributes := #[] }
def k1m1 : Method := { name := "law", desc := "(IJJJJ)Z", sig := { parameters := [.int, .long, .long, .long, .long], returnType := some .boolean }, accessFlags := 9, code := some k1c1 }
/-- com/example/turnstile/turnstile/lab/WorkersSumPinLaw -/
def k1 : Class := { plain "com/example/turnstile/turnstile/lab/WorkersSumPinLaw" (some 0) with
  accessFlags := 49
  interfaces := #[]
  cf := some (fileOf pool1 14 #[] #[{ accessFlags := 1, nameIndex := 5, descriptorIndex := 6, attributes := #[] }, { accessFlags := 9, nameIndex := 18, descriptorIndex := 19, attributes := #[] }] 49 2 #[] #[])
  fields := #[]
  methods := #[k1m0, k1m1]
  instanceTypes := #[]
  staticTypes := #[]
  resolved := Array.replicate 25 none
  statics := none }

def pool2 : Array CpInfo := pool [(2, .class_ 4), (1, u "java/lang/Object"), (0, u "<init>"), (0, u "()V"), (4, .class_ 13), (1, u "com/example/turnstile/turnstile/lab/Workers"), (0, u "failure"), (0, u "Ljava/util/concurrent/atomic/AtomicReference;"), (8, u "running"), (0, u "Ljava/util/Set;"), (8, u "progressAt"), (0, u "J"), (28, u "GRACE_NANOS"), (69, .class_ 136), (1, u "com/example/turnstile/turnstile/lab/Workers$Task"), (37, u "sum"), (0, u "([J)J")] 40

def k2m0 : Method := { name := "<init>", desc := "()V", sig := { parameters := [], returnType := none }, accessFlags := 0, code := none }
def k2c1 : Code := { maxStack := 4, maxLocals := 8, code := prog_86_method_6_code, exceptionTable := #[], attributes := #[] }
def k2m1 : Method := { name := "sum", desc := "([J)J", sig := { parameters := [(.array .long)], returnType := some .long }, accessFlags := 8, code := some k2c1 }
/-- com/example/turnstile/turnstile/lab/Workers -/
def k2 : Class := { plain "com/example/turnstile/turnstile/lab/Workers" (some 0) with
  accessFlags := 48
  interfaces := #[]
  cf := some (fileOf pool2 11 #[.nestMembers #[134]] #[{ accessFlags := 0, nameIndex := 5, descriptorIndex := 6, attributes := #[] }, { accessFlags := 8, nameIndex := 174, descriptorIndex := 175, attributes := #[] }] 48 2 #[] #[{ accessFlags := 24, nameIndex := 64, descriptorIndex := 35, attributes := #[] }, { accessFlags := 18, nameIndex := 14, descriptorIndex := 15, attributes := #[] }, { accessFlags := 18, nameIndex := 24, descriptorIndex := 25, attributes := #[] }, { accessFlags := 66, nameIndex := 34, descriptorIndex := 35, attributes := #[] }])
  fields := #[{ name := "GRACE_NANOS", type := .long, accessFlags := 24, slot := 0, constantValue := 0 }, { name := "failure", type := (.object "java/util/concurrent/atomic/AtomicReference"), accessFlags := 18, slot := 0, constantValue := 0 }, { name := "running", type := (.object "java/util/Set"), accessFlags := 18, slot := 1, constantValue := 0 }, { name := "progressAt", type := .long, accessFlags := 66, slot := 2, constantValue := 0 }]
  methods := #[k2m0, k2m1]
  instanceTypes := #[(.object "java/util/concurrent/atomic/AtomicReference"), (.object "java/util/Set"), .long]
  staticTypes := #[.long]
  resolved := Array.replicate 216 none
  statics := none }

def pool3 : Array CpInfo := pool [(1, u "java/lang/Cloneable"), (0, .class_ 1), (0, u "java/lang/Object"), (0, .class_ 3)] 3

/-- java/lang/Cloneable -/
def k3 : Class := { plain "java/lang/Cloneable" (some 0) with
  accessFlags := 1537
  interfaces := #[]
  cf := some (fileOf pool3 2 #[] #[] 1537 4 #[] #[])
  fields := #[]
  methods := #[]
  instanceTypes := #[]
  staticTypes := #[]
  resolved := Array.replicate 8 none
  statics := none }

def pool4 : Array CpInfo := pool [(1, u "java/io/Serializable"), (0, .class_ 1), (0, u "java/lang/Object"), (0, .class_ 3)] 3

/-- java/io/Serializable -/
def k4 : Class := { plain "java/io/Serializable" (some 0) with
  accessFlags := 1537
  interfaces := #[]
  cf := some (fileOf pool4 2 #[] #[] 1537 4 #[] #[])
  fields := #[]
  methods := #[]
  instanceTypes := #[]
  staticTypes := #[]
  resolved := Array.replicate 8 none
  statics := none }

/-- the primitive byte -/
def k5 : Class := { plain "byte" none with kind := .primitive 'B', accessFlags := 0x411 }
/-- [B -/
def k6 : Class := { plain "[B" (some 0) with kind := .array 5 .byte, interfaces := #[3, 4], accessFlags := 1041 }

/-- the primitive long -/
def k7 : Class := { plain "long" none with kind := .primitive 'J', accessFlags := 0x411 }
/-- [J -/
def k8 : Class := { plain "[J" (some 0) with kind := .array 7 .long, interfaces := #[3, 4], accessFlags := 1041 }

def heap : Heap := #[]
def classes : Array Class := #[k0, k1, k2, k3, k4, k5, k6, k7, k8]
def interned : List (Array UInt16 × Addr) := []
def slotsUsed : Nat := 0
def theMethod : MethodId := ⟨1, 1⟩
def args0 : Array Value := #[.int 5, .long 6, .long 7, .long 8, .long 9]
def aboutOver (below : List Frame) : State where
  vm := { classes := classes, interned := interned.toArray }
  heap := heap
  slotsUsed := slotsUsed
  threads := #[{ frames := .invoking theMethod args0 :: below }]
def below0 : List Frame := [.native { method := ⟨0, 0⟩, args := #[] }]
def about1 : State := aboutOver below0
def p0 : Program := .bare "" "" ""
def e0 : Env := launch0.env 0 0 0
theorem w_frames : about1.frames = Frame.invoking theMethod args0 :: below0 := rfl
set_option maxRecDepth 65536 in
theorem w_args : argsFit about1.vm theMethod args0 = true := by decide +kernel
set_option maxRecDepth 65536 in
theorem w_heap : heapFits about1 = true := by decide +kernel
set_option maxRecDepth 65536 in
theorem w_runnable : about1.curStatus? = some .runnable := by decide +kernel
set_option maxRecDepth 65536 in
theorem w_alone : about1.alone = true := by decide +kernel
set_option maxRecDepth 65536 in
theorem w_named : about1.methodNamed? x = some theMethod := by decide +kernel
set_option maxRecDepth 65536 in
theorem w_hears : about1.hears theMethod below0 = true := by decide +kernel
set_option maxRecDepth 65536 in
theorem w_ripe : about1.ripe theMethod args0 below0 = true := by decide +kernel
theorem w_running : about1.status = .running := rfl
set_option maxRecDepth 65536 in
theorem w_room : about1.hasRoom e0.platform room_1 = true :=
  launch0.hasRoom_least _ room_1 (by decide +kernel) (by decide +kernel) (by decide +kernel) (by decide +kernel) (by decide +kernel) (by decide +kernel)
theorem allAtoms_all (ts : List Jvm.Cond) (a : Array Jvm.Value) (st : Jvm.State) : (allAtoms ts).before a st = ts.all (fun c => c.before a st) := by
  induction ts with
  | nil => rfl
  | cons c t ih =>
    show (Jvm.Cond.and c (allAtoms t)).before a st = _
    rw [Jvm.Cond.before_and, ih, List.all_cons]
def words1 : List Jvm.Cond := Jvm.Cond.code x code maxLocals ret :: tables_1
/-- a 'code' word, met by the world's own term for the bytes: nothing is compared byte by byte -/
theorem code_word {y : MethodName} {bytes : ByteArray} {mx : Nat} {rt : Option FieldType} {a : Array Value} {s : State} {m : MethodId} {meth : Method} {c : Code} (h1 : s.methodNamed? y = some m) (h2 : s.vm.method? m = some meth) (h3 : meth.code = some c) (h4 : c.code = bytes)
    (h5 : (c.maxLocals == mx && c.exceptionTable.isEmpty && decide (c.maxStack ≤ mostOperands) && decide (meth.sig.returnType = rt) && !meth.locks && decide (parseMethodDescriptor y.desc = some meth.sig)) = true) : (Jvm.Cond.code y bytes mx rt).before a s = true := by
  simp only [Bool.and_eq_true, beq_iff_eq, Bool.not_eq_true', decide_eq_true_eq] at h5
  obtain ⟨⟨⟨⟨⟨g1, g2⟩, g3⟩, g4⟩, g5⟩, g6⟩ := h5
  simp [Cond.before, Cond.holds, Cond.value, h1, h2, h3, h4, g1, g2, g3, g4, g5, g6]
def isCode : Jvm.Cond → Bool
  | .code _ _ _ _ => true
  | _ => false
theorem all_split {L : List Jvm.Cond} {P : Jvm.Cond → Bool} (h1 : L.all (fun c => isCode c || P c) = true) (h2 : ∀ c ∈ L.filter isCode, P c = true) : L.all P = true := by
  refine List.all_eq_true.mpr fun c hc => ?_
  have h := List.all_eq_true.mp h1 c hc
  rcases Bool.eq_false_or_eq_true (isCode c) with hi | hi
  · exact h2 c (List.mem_filter.mpr ⟨hc, hi⟩)
  · simpa [hi] using h
set_option maxRecDepth 65536 in
theorem w_c0 : (Jvm.Cond.code x code maxLocals ret).before args0 about1 = true := code_word (m := ⟨1, 1⟩) (meth := k1m1) (c := k1c1) (by decide +kernel) rfl rfl rfl (by decide +kernel)
set_option maxRecDepth 65536 in
theorem w_c1 : (Jvm.Cond.code ({ cls := "com/example/turnstile/turnstile/lab/Workers", name := "sum", desc := "([J)J" } : Jvm.MethodName) prog_86_method_6_code (8 : Nat) (Option.some Jvm.ClassFile.FieldType.long)).before args0 about1 = true := code_word (m := ⟨2, 1⟩) (meth := k2m1) (c := k2c1) (by decide +kernel) rfl rfl rfl (by decide +kernel)
def codes1 : List Jvm.Cond := [Jvm.Cond.code x code maxLocals ret, Jvm.Cond.code ({ cls := "com/example/turnstile/turnstile/lab/Workers", name := "sum", desc := "([J)J" } : Jvm.MethodName) prog_86_method_6_code (8 : Nat) (Option.some Jvm.ClassFile.FieldType.long)]
set_option maxRecDepth 65536 in
theorem codes_eq : words1.filter isCode = codes1 := rfl
theorem w_codes : ∀ c ∈ words1.filter isCode, c.before args0 about1 = true := by
  rw [codes_eq]
  intro c hc
  simp only [codes1, List.mem_cons, List.not_mem_nil, or_false] at hc
  rcases hc with rfl | rfl
  · exact w_c0
  · exact w_c1
set_option maxRecDepth 65536 in
theorem w_t1 : words1.all (fun c => isCode c || c.before args0 about1) = true := by decide +kernel
theorem w_tables : (allAtoms (Jvm.Cond.code x code maxLocals ret :: tables_1)).before args0 about1 = true := by
  rw [allAtoms_all]
  show words1.all (fun c => c.before args0 about1) = true
  refine all_split ?_ w_codes
  rw [w_t1]
set_option maxRecDepth 65536 in
theorem w_case : (Jvm.Cond.and given_1 narrow_1).before args0 about1 = true := by decide +kernel
theorem w_applies : (headSpec (Jvm.Cond.code x code maxLocals ret :: tables_1) room_1).applies x e0.platform about1 = true :=
  (Spec.applies_iff w_frames).mpr ⟨w_running, w_runnable, w_alone, w_named, w_hears, w_ripe, w_room, w_tables⟩
theorem atStart : AtStart classFile x code maxLocals ret World_1 tables_1 room_1 Calls_1 rest_1 Pre_1 launch0 p0 e0 about1 theMethod args0 below0 :=
  ⟨lists_1, trivial, launch0.admits_env _ _ _, launch0.least_env, fairChoices_fair.cas, fairChoices_fair.clock, w_frames, w_args, w_heap, w_applies, trivial, trivial, w_case⟩
end start1
theorem witness_1 : WitnessClaimed_1 := ⟨start1.p0, start1.e0, start1.about1, start1.theMethod, start1.args0, start1.below0, start1.atStart⟩
end Jvm.Pilot.@@N@@
