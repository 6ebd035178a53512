import JvmDerived
import JvmDerived.Pilot.@@N@@Statement
import JvmDerived.Pilot.@@N@@Code
set_option linter.unusedVariables false
set_option linter.unusedSimpArgs false
namespace Jvm.RoadKit
open Sem ClassFile Op Lib Jvm.Stand Jvm.Free Jvm.LawKit
section New
variable {p : Program} {l : Launch} {e : Env} {R : Room} {s : State} {m : MethodId} {args : Array Value} {below : List Frame} {meth : Method} {c : Code} {T : State} {locs : List Loc} {cells slots : Nat}
theorem retI (X : Stand p l e R s m args below meth c T locs cells slots) (hx : p.tables.exec = Jvm.exec) {pc : Nat} {Ls : Array Slot} {z : Int32} {rest : List Value} (hret : meth.sig.returnType = some .int) (hd : decode c.code pc = .ok (.ireturn, 1)) {fs : List Frame}
    (hl : ∀ (f : JFrame) (acts : List Action), f.method = m → f.locked = none → f.entered = [] → (doReturn e (T.setTop f) acts (some (.int z))).1 = T.setFrames fs) : Steps p.tables e below (T.setTop (mkF m pc Ls (.int z :: rest))) (T.setFrames fs) := by
  have hm' : T.vm.method? m = some meth := X.method'
  have hn : narrow .int (.int z) = .int z := rfl
  show Steps p.tables e below (T.setTop { method := m, pc := pc, locals := Ls, stack := _ :: rest, locked := none }) _
  jvm_step X.here [X.here.top, hx, hd, hm', hret, hn]
  first | (intro acts; rw [hl _ acts rfl rfl rfl]) | rw [hl _ _ rfl rfl rfl]
  exact Steps.refl _
end New
end Jvm.RoadKit
namespace Jvm.Pilot.@@N@@
open Jvm Jvm.ClassFile Sem Op Lib Jvm.Free Jvm.Free.Fl Jvm.Stand Jvm.LawKit Jvm.RoadKit Bundle Jvm.Pilot.@@N@@.Jvm.D
def own_Qr (h0 : Heap) (n0 : Nat) (r : Value) (v : Option Value) (h : Heap) (L : List Loc) : Prop := v = some r ∧ Fr n0 L ∧ h = h0

theorem own_di (n : Int32) : FP.Core.DInt n.toInt (FP.i2d n) := FP.Core.i2d_int n
theorem own_dn {i : Int} {a : UInt64} (h : FP.Core.DInt i a) : FP.Core.DInt (-i) (FP.dneg a) := by
  have q : FP.dIsNaN a = false := (FP.Core.notNaN_iff a).mpr (FP.Core.DInt_ne_nan h)
  rw [FP.dneg_core q]; exact FP.Core.dneg_int h
theorem own_cmp {i j : Int} {a b : UInt64} (ha : FP.Core.DInt i a) (hb' : FP.Core.DInt j b) : FP.dcmp a b = some (compare i j) := FP.Core.dcmp_int ha hb'
theorem own_lt {i j : Int} {a b : UInt64} (ha : FP.Core.DInt i a) (hb' : FP.Core.DInt j b) (h : i < j) (o : CmpOp) : cmpValue (FP.dcmp a b) o = -1 := by
  rw [own_cmp ha hb', Int.compare_eq_lt.mpr h]; rfl
theorem own_gt {i j : Int} {a b : UInt64} (ha : FP.Core.DInt i a) (hb' : FP.Core.DInt j b) (h : j < i) (o : CmpOp) : cmpValue (FP.dcmp a b) o = 1 := by
  rw [own_cmp ha hb', Int.compare_eq_gt.mpr h]; rfl
theorem own_eq {i j : Int} {a b : UInt64} (ha : FP.Core.DInt i a) (hb' : FP.Core.DInt j b) (h : i = j) (o : CmpOp) : cmpValue (FP.dcmp a b) o = 0 := by
  rw [own_cmp ha hb', Int.compare_eq_eq.mpr h]; rfl

theorem own_eqI {a : Term} {k : Int32} {args : Array Value} {s : State} (h : (Jvm.Cond.eq a (.int k)).value args s none s [] = some true) : a.eval args s none [] s = some (.int k) := by
  obtain ⟨x, y, hx, hy, kx, ky⟩ := cmp_v (Or.inl h)
  have hk : (Term.int k).eval args s none [] s = some (.int k) := Term.int_eval k
  obtain rfl : y = .int k := Option.some.inj (hy.symm.trans hk)
  obtain ⟨z, rfl⟩ := ky
  have hz : z = k := by simpa [Jvm.Cond.value, hx, hk] using h
  rw [hx, hz]

theorem own_i3 (x y : Int32) (h : ¬ x < y) (h' : ¬ y < x) : x = y := by
  rw [Int32.lt_iff_toInt_lt] at h h'
  exact Int32.toInt_inj.mp (by omega)
theorem d1_0 : decode prog_24_method_5_code 0 = .ok (.aload_n 0, 1) := by decide +kernel
theorem d1_1 : decode prog_24_method_5_code 1 = .ok (.getfield 29, 3) := by decide +kernel
theorem d1_4 : decode prog_24_method_5_code 4 = .ok (.ifCond .eq 7, 3) := by decide +kernel
theorem d1_11 : decode prog_24_method_5_code 11 = .ok (.dload_n 1, 1) := by decide +kernel
theorem d1_12 : decode prog_24_method_5_code 12 = .ok (.dneg, 1) := by decide +kernel
theorem d1_13 : decode prog_24_method_5_code 13 = .ok (.dreturn, 1) := by decide +kernel
theorem pn_1 : plainName "com/example/upweight/upweight/Specificity" = true := by first | (simp [plainName, overriddenIn]; done) | decide +kernel
theorem ef_1 (m : MethodId) (x0 : Addr) (x1 : UInt64) : entryFrame m #[(.ref x0), (.double x1)] 3 = mkF m 0 #[.val (.ref x0), .val (.double x1), .second] [] := by first | (simp [entryFrame, mkF, argsToLocals, Value.category]; done) | rfl
def Q1t (Z : State) (a1 : Addr) (f2 : UInt64) (w3 : Int32) (h0 : Heap) (n0 : Nat) (v : Option Value) (h : Heap) (L : List Loc) : Prop := v = some (.double (FP.dneg f2)) ∧ Fr n0 L ∧ h = h0
set_option maxRecDepth 65536 in
set_option maxHeartbeats 40000000 in
theorem rm1t (l : Launch) (Z : State) (a0 : Array Value) (hw : ∀ d ∈ tables_1, d.before a0 Z = true) (ws : List Jvm.Cond) (a1 : Addr) (f2 : UInt64) (w3 : Int32) (h0 : Heap) (n0 : Nat) (Z0 : n0 ≤ h0.size) (F_higherIsMoreSpecific_a1 : Fld Z h0 a1 "com/example/upweight/upweight/Specificity" "higherIsMoreSpecific" "Z" (.int w3)) (hc4 : w3 = (0 : Int32)) :
    MetFree l (⟨"com/example/upweight/upweight/Specificity", "leastSpecificFirstKey", "(D)D"⟩ : MethodName) (head1 (Jvm.Cond.code (⟨"com/example/upweight/upweight/Specificity", "leastSpecificFirstKey", "(D)D"⟩ : MethodName) prog_24_method_5_code 3 (some .double) :: ws) ({ frames := 0, cells := 0, slots := 0, locals := 0 } : Room)) (fun a U => a = #[(.ref a1), (.double f2)] ∧ Z.Warmed39 U.vm ∧ U.heap = h0) (fun _ _ _ _ _ => True) (fun _ U o U' => ∃ v L, o = .returned v ∧ Q1t Z a1 f2 w3 h0 n0 v U'.heap L ∧ FrameEnd U o U' L ({ frames := 0, cells := 0, slots := 0, locals := 0 } : Room).cells ({ frames := 0, cells := 0, slots := 0, locals := 0 } : Room).slots) := by
  refine MetFree.of_bodySF (plainFor_of_name pn_1) hisR ?_
  intro p e s m args below meth c s₁ Bd hml0 hP hK
  obtain ⟨rfl, hZ, hh⟩ := hP
  have hx := Bd.exec
  have hby := Bd.bytes
  have hml : c.maxLocals = 3 := hml0
  have hown : s.vm.findClass "com/example/upweight/upweight/Specificity" = some m.cls := findClass_of_methodNamed Bd.named
  have hnm := (name_of_methodNamed Bd.named Bd.method).1
  have X0 : Stand p l e ({ frames := 0, cells := 0, slots := 0, locals := 0 } : Room) s m #[(.ref a1), (.double f2)] below meth c s₁ [] 0 0 := Stand.of_body Bd
  have e0 : s₁.heap = h0 := by rw [← hh, Bd.state]; rfl
  have N0 := Fr.nil n0
  have pre0 : ∀ t, Steps p.tables e below (s₁.setTop (mkF m 0 #[.val (.ref a1), .val (.double f2), .second] [])) t → Steps p.tables e below (s₁.setTop (entryFrame m #[(.ref a1), (.double f2)] 3)) t := fun t k => castTop (ef_1 m a1 f2) k
  obtain ⟨T4, X4, e4, st4⟩ := getF X0 hx hZ hown (host := "") (Or.inl (hw _ (List.mem_of_getElem? (i := 8) rfl))) Via.refl e0 F_higherIsMoreSpecific_a1 (g := (mkF m 1 #[.val (.ref a1), .val (.double f2), .second] [(.ref a1)])) rfl rfl (hb hby d1_1)
  obtain ⟨fs, hr, hrun, hended, hW, hsame⟩ := X4.leave (v := some (.double (FP.dneg f2))) (fun h => by rw [Bd.returns] at h; cases h)
  refine ⟨_, _, pre0 _ ?_, hrun, hended, _, _, rfl, ?_, ⟨_, rfl⟩, hW, hsame.mono (by decide) (by decide)⟩
  · show Steps p.tables e below (s₁.setTop (mkF m 0 #[.val (.ref a1), .val (.double f2), .second] [])) _
    refine XS.aloadN X0.here hx rfl (hb hby d1_0) rfl rfl ?_
    show Steps p.tables e below (s₁.setTop (mkF m 1 #[.val (.ref a1), .val (.double f2), .second] [(.ref a1)])) _
    refine st4 _ ?_
    show Steps p.tables e below (T4.setTop (mkF m 4 #[.val (.ref a1), .val (.double f2), .second] [(.int w3)])) _
    refine XS.ifYes X4.here hx rfl (pc0 := 4) (pc' := 11) rfl (hb hby d1_4) rfl ((if0 _ _).trans (teq hc4).1) (by decide) (by decide) ?_
    show Steps p.tables e below (T4.setTop (mkF m 11 #[.val (.ref a1), .val (.double f2), .second] [])) _
    jvm_step X4.here [X4.here.top, hx, (hb hby d1_11)]
    show Steps p.tables e below (T4.setTop (mkF m 12 #[.val (.ref a1), .val (.double f2), .second] [(.double f2)])) _
    jvm_step X4.here [X4.here.top, hx, (hb hby d1_12)]
    show Steps p.tables e below (T4.setTop (mkF m 13 #[.val (.ref a1), .val (.double f2), .second] [(.double (FP.dneg f2))])) _
    jvm_step X4.here [X4.here.top, hx, (hb hby d1_13), X4.method', Bd.returns, narrow]
    first | (intro acts; rw [hr _ acts rfl rfl rfl]) | rw [hr _ _ rfl rfl rfl]
    exact Steps.refl _
  · show Q1t Z a1 f2 w3 h0 n0 _ T4.heap _
    rw [e4]
    exact ⟨rfl, N0, rfl⟩
theorem d1_7 : decode prog_24_method_5_code 7 = .ok (.dload_n 1, 1) := by decide +kernel
theorem d1_8 : decode prog_24_method_5_code 8 = .ok (.goto 5, 3) := by decide +kernel
def Q1f (Z : State) (a1 : Addr) (f2 : UInt64) (w3 : Int32) (h0 : Heap) (n0 : Nat) (v : Option Value) (h : Heap) (L : List Loc) : Prop := v = some (.double f2) ∧ Fr n0 L ∧ h = h0
set_option maxRecDepth 65536 in
set_option maxHeartbeats 40000000 in
theorem rm1f (l : Launch) (Z : State) (a0 : Array Value) (hw : ∀ d ∈ tables_1, d.before a0 Z = true) (ws : List Jvm.Cond) (a1 : Addr) (f2 : UInt64) (w3 : Int32) (h0 : Heap) (n0 : Nat) (Z0 : n0 ≤ h0.size) (F_higherIsMoreSpecific_a1 : Fld Z h0 a1 "com/example/upweight/upweight/Specificity" "higherIsMoreSpecific" "Z" (.int w3)) (hc4 : ¬ (w3 = (0 : Int32))) :
    MetFree l (⟨"com/example/upweight/upweight/Specificity", "leastSpecificFirstKey", "(D)D"⟩ : MethodName) (head1 (Jvm.Cond.code (⟨"com/example/upweight/upweight/Specificity", "leastSpecificFirstKey", "(D)D"⟩ : MethodName) prog_24_method_5_code 3 (some .double) :: ws) ({ frames := 0, cells := 0, slots := 0, locals := 0 } : Room)) (fun a U => a = #[(.ref a1), (.double f2)] ∧ Z.Warmed39 U.vm ∧ U.heap = h0) (fun _ _ _ _ _ => True) (fun _ U o U' => ∃ v L, o = .returned v ∧ Q1f Z a1 f2 w3 h0 n0 v U'.heap L ∧ FrameEnd U o U' L ({ frames := 0, cells := 0, slots := 0, locals := 0 } : Room).cells ({ frames := 0, cells := 0, slots := 0, locals := 0 } : Room).slots) := by
  refine MetFree.of_bodySF (plainFor_of_name pn_1) hisR ?_
  intro p e s m args below meth c s₁ Bd hml0 hP hK
  obtain ⟨rfl, hZ, hh⟩ := hP
  have hx := Bd.exec
  have hby := Bd.bytes
  have hml : c.maxLocals = 3 := hml0
  have hown : s.vm.findClass "com/example/upweight/upweight/Specificity" = some m.cls := findClass_of_methodNamed Bd.named
  have hnm := (name_of_methodNamed Bd.named Bd.method).1
  have X0 : Stand p l e ({ frames := 0, cells := 0, slots := 0, locals := 0 } : Room) s m #[(.ref a1), (.double f2)] below meth c s₁ [] 0 0 := Stand.of_body Bd
  have e0 : s₁.heap = h0 := by rw [← hh, Bd.state]; rfl
  have N0 := Fr.nil n0
  have pre0 : ∀ t, Steps p.tables e below (s₁.setTop (mkF m 0 #[.val (.ref a1), .val (.double f2), .second] [])) t → Steps p.tables e below (s₁.setTop (entryFrame m #[(.ref a1), (.double f2)] 3)) t := fun t k => castTop (ef_1 m a1 f2) k
  obtain ⟨T4, X4, e4, st4⟩ := getF X0 hx hZ hown (host := "") (Or.inl (hw _ (List.mem_of_getElem? (i := 8) rfl))) Via.refl e0 F_higherIsMoreSpecific_a1 (g := (mkF m 1 #[.val (.ref a1), .val (.double f2), .second] [(.ref a1)])) rfl rfl (hb hby d1_1)
  obtain ⟨fs, hr, hrun, hended, hW, hsame⟩ := X4.leave (v := some (.double f2)) (fun h => by rw [Bd.returns] at h; cases h)
  refine ⟨_, _, pre0 _ ?_, hrun, hended, _, _, rfl, ?_, ⟨_, rfl⟩, hW, hsame.mono (by decide) (by decide)⟩
  · show Steps p.tables e below (s₁.setTop (mkF m 0 #[.val (.ref a1), .val (.double f2), .second] [])) _
    refine XS.aloadN X0.here hx rfl (hb hby d1_0) rfl rfl ?_
    show Steps p.tables e below (s₁.setTop (mkF m 1 #[.val (.ref a1), .val (.double f2), .second] [(.ref a1)])) _
    refine st4 _ ?_
    show Steps p.tables e below (T4.setTop (mkF m 4 #[.val (.ref a1), .val (.double f2), .second] [(.int w3)])) _
    refine XS.ifNo X4.here hx rfl (hb hby d1_4) rfl ((if0 _ _).trans (feq hc4).1) ?_
    show Steps p.tables e below (T4.setTop (mkF m 7 #[.val (.ref a1), .val (.double f2), .second] [])) _
    jvm_step X4.here [X4.here.top, hx, (hb hby d1_7)]
    show Steps p.tables e below (T4.setTop (mkF m 8 #[.val (.ref a1), .val (.double f2), .second] [(.double f2)])) _
    refine XS.goto X4.here hx rfl (pc0 := 8) (pc' := 13) rfl (hb hby d1_8) (by decide) (by decide) ?_
    show Steps p.tables e below (T4.setTop (mkF m 13 #[.val (.ref a1), .val (.double f2), .second] [(.double f2)])) _
    jvm_step X4.here [X4.here.top, hx, (hb hby d1_13), X4.method', Bd.returns, narrow]
    first | (intro acts; rw [hr _ acts rfl rfl rfl]) | rw [hr _ _ rfl rfl rfl]
    exact Steps.refl _
  · show Q1f Z a1 f2 w3 h0 n0 _ T4.heap _
    rw [e4]
    exact ⟨rfl, N0, rfl⟩
theorem pn_0 : plainName "com/example/upweight/upweight/SpecificityLeastSpecificFirstKeyPinLaw" = true := by first | (simp [plainName, overriddenIn]; done) | decide +kernel
theorem pd_0_0 : parseMethodDescriptor "(D)D" = some ⟨[.double], some .double⟩ := by decide +kernel
theorem ef_0 (m : MethodId) (x0 : Int32) (x1 : Int32) (x2 : Int32) : entryFrame m #[(.int x0), (.int x1), (.int x2)] maxLocals = mkF m 0 #[.val (.int x0), .val (.int x1), .val (.int x2), .unset, .unset, .unset, .unset, .unset, .unset, .unset, .unset, .unset, .unset, .unset, .unset, .unset] [] := by first | (simp [entryFrame, mkF, argsToLocals, Value.category, maxLocals]; done) | rfl
def Q0a (Z : State) (p1 : Int32) (p2 : Int32) (p3 : Int32) (w4 : Addr) (h0 : Heap) (n0 : Nat) (v : Option Value) (h : Heap) (L : List Loc) : Prop := v = some (.int (1 : Int32)) ∧ Fr n0 L
set_option maxRecDepth 65536 in
set_option maxHeartbeats 40000000 in
theorem rm0a (l : Launch) (Z : State) (a0 : Array Value) (hw : ∀ d ∈ tables_1, d.before a0 Z = true) (ws : List Jvm.Cond) (p1 : Int32) (p2 : Int32) (p3 : Int32) (w4 : Addr) (h0 : Heap) (n0 : Nat) (Z0 : n0 ≤ h0.size) (S_NIDF : Sta Z h0 "com/example/upweight/upweight/Specificity" "NIDF" "Lcom/example/upweight/upweight/Specificity;" (.ref w4)) (E_w4 : Exa Z h0 w4 "com/example/upweight/upweight/Specificity$2") (FH : Fld Z h0 w4 "com/example/upweight/upweight/Specificity" "higherIsMoreSpecific" "Z" (.int 1)) (hc3 : ¬ ((p1 &&& (1 : Int32)) = (0 : Int32))) (hc13 : ¬ ((1 : Int32) = (0 : Int32))) (hc58 : ¬ ((1 : Int32) = (0 : Int32))) (hc63 : p2 < p3) (hc88 : ¬ ((1 : Int32) = (0 : Int32))) (hc93 : ¬ (p3 < p2)) (hc167 : ¬ (p2 = p3)) :
    MetFree l x (head1 (Jvm.Cond.code x code maxLocals ret :: ws) room_1) (fun a U => a = #[(.int p1), (.int p2), (.int p3)] ∧ Z.Warmed39 U.vm ∧ U.heap = h0) (fun _ _ _ _ _ => True) (fun _ U o U' => ∃ v L, o = .returned v ∧ Q0a Z p1 p2 p3 w4 h0 n0 v U'.heap L ∧ FrameEnd U o U' L room_1.cells room_1.slots) := by
  refine MetFree.of_bodySF (plainFor_of_name pn_0) hisR ?_
  intro p e s m args below meth c s₁ Bd hml0 hP hK
  obtain ⟨rfl, hZ, hh⟩ := hP
  have hx := Bd.exec
  have hby := Bd.bytes
  have hml : c.maxLocals = 16 := hml0
  have hown : s.vm.findClass "com/example/upweight/upweight/SpecificityLeastSpecificFirstKeyPinLaw" = some m.cls := findClass_of_methodNamed Bd.named
  have hnm := (name_of_methodNamed Bd.named Bd.method).1
  have X0 : Stand p l e room_1 s m #[(.int p1), (.int p2), (.int p3)] below meth c s₁ [] 0 0 := Stand.of_body Bd
  have e0 : s₁.heap = h0 := by rw [← hh, Bd.state]; rfl
  have N0 := Fr.nil n0
  have pre0 : ∀ t, Steps p.tables e below (s₁.setTop (mkF m 0 #[.val (.int p1), .val (.int p2), .val (.int p3), .unset, .unset, .unset, .unset, .unset, .unset, .unset, .unset, .unset, .unset, .unset, .unset, .unset] [])) t → Steps p.tables e below (s₁.setTop (entryFrame m #[(.int p1), (.int p2), (.int p3)] maxLocals)) t := fun t k => castTop (ef_0 m p1 p2 p3) k
  obtain ⟨T5, X5, e5, st5⟩ := getS2 X0 hx hZ hown (host := "") (Or.inl (hw _ (List.mem_of_getElem? (i := 10) rfl))) Via.refl e0 S_NIDF (g := (mkF m 16 #[.val (.int p1), .val (.int p2), .val (.int p3), .val (.int (1 : Int32)), .unset, .unset, .unset, .unset, .unset, .unset, .unset, .unset, .unset, .unset, .unset, .unset] [])) rfl (hb hby at_16)
  obtain ⟨cq6, kq6, q6a, q6b, q6c⟩ := isOf hZ e5 E_w4
  obtain ⟨_, _, ⟨T6, L6, k6, n6⟩, -, X6, ⟨Lc6, hQ6, l6, y6, z6⟩, st6⟩ := X5.virtualBack hx (y := (⟨"com/example/upweight/upweight/Specificity", "leastSpecificFirstKey", "(D)D"⟩ : MethodName)) (z := (⟨"com/example/upweight/upweight/Specificity", "leastSpecificFirstKey", "(D)D"⟩ : MethodName)) hown (mvT hZ (hw _ (List.mem_of_getElem? (i := 3) rfl))) (mvT hZ (hw _ (List.mem_of_getElem? (i := 4) rfl))) (notFace_of_selects (args := #[]) (mvT hZ (hw _ (List.mem_of_getElem? (i := 12) rfl)))) (mvT hZ (hw _ (List.mem_of_getElem? (i := 12) rfl))) (mvT hZ (hw _ (List.mem_of_getElem? (i := 5) rfl))) (by decide) (backOf (W := 0) (rm1f l Z a0 hw [] w4 (FP.i2d p2) 1 h0 n0 Z0 FH (by decide)) hZ (hw _ (List.mem_of_getElem? (i := 7) rfl)) (hw _ (List.mem_of_getElem? (i := 1) rfl)) (by decide) (by decide)) q6a q6c (g := (mkF m 42 #[.val (.int p1), .val (.int p2), .val (.int p3), .val (.int (1 : Int32)), .val (.ref w4), .val (.int (1 : Int32)), .val (.double (FP.i2d p2)), .second, .val (.double (FP.i2d p3)), .second, .unset, .unset, .unset, .unset, .unset, .unset] [(.double (FP.i2d p2)), (.ref w4)])) rfl (by rw [hml]; rfl) (Steps.refl _) (argsL := [(.double (FP.i2d p2))]) (rest := []) (lenOf pd_0_0 rfl) rfl (by show 2 * 0 + _ ≤ _; exact Nat.le_of_eq rfl) (hb hby at_42) (fun _ _ => ⟨rfl, e5, (by decide : 0 + 0 ≤ _), (by decide : 0 + 0 ≤ _)⟩)
  dsimp only [Pt.U, Pt.locs, Pt.cells, Pt.slots] at X6 l6 y6 z6 st6 hQ6
  subst l6 y6 z6
  obtain ⟨rfl, N6q, q6⟩ := hQ6
  have K6 : Keep h0 T6.heap [] := by rw [q6]; exact Keep.refl _ _
  have N6 := Fr.app N0 N6q
  obtain ⟨cq7, kq7, q7a, q7b, q7c⟩ := isOf hZ rfl (E_w4.keep K6)
  obtain ⟨_, _, ⟨T7, L7, k7, n7⟩, -, X7, ⟨Lc7, hQ7, l7, y7, z7⟩, st7⟩ := X6.virtualBack hx (y := (⟨"com/example/upweight/upweight/Specificity", "leastSpecificFirstKey", "(D)D"⟩ : MethodName)) (z := (⟨"com/example/upweight/upweight/Specificity", "leastSpecificFirstKey", "(D)D"⟩ : MethodName)) hown (mvT hZ (hw _ (List.mem_of_getElem? (i := 3) rfl))) (mvT hZ (hw _ (List.mem_of_getElem? (i := 4) rfl))) (notFace_of_selects (args := #[]) (mvT hZ (hw _ (List.mem_of_getElem? (i := 12) rfl)))) (mvT hZ (hw _ (List.mem_of_getElem? (i := 12) rfl))) (mvT hZ (hw _ (List.mem_of_getElem? (i := 5) rfl))) (by decide) (backOf (W := 0) (rm1f l Z a0 hw [] w4 (FP.i2d p3) 1 T6.heap n0 (by rw [q6]; exact Z0) (by rw [q6]; exact FH) (by decide)) hZ (hw _ (List.mem_of_getElem? (i := 7) rfl)) (hw _ (List.mem_of_getElem? (i := 1) rfl)) (by decide) (by decide)) q7a q7c (g := (mkF m 51 #[.val (.int p1), .val (.int p2), .val (.int p3), .val (.int (1 : Int32)), .val (.ref w4), .val (.int (1 : Int32)), .val (.double (FP.i2d p2)), .second, .val (.double (FP.i2d p3)), .second, .val (.double (FP.i2d p2)), .second, .unset, .unset, .unset, .unset] [(.double (FP.i2d p3)), (.ref w4)])) rfl (by rw [hml]; rfl) (Steps.refl _) (argsL := [(.double (FP.i2d p3))]) (rest := []) (lenOf pd_0_0 rfl) rfl (by show 2 * 0 + _ ≤ _; exact Nat.le_of_eq rfl) (hb hby at_51) (fun _ _ => ⟨rfl, rfl, (by decide : 0 + 0 ≤ _), (by decide : 0 + 0 ≤ _)⟩)
  dsimp only [Pt.U, Pt.locs, Pt.cells, Pt.slots] at X7 l7 y7 z7 st7 hQ7
  subst l7 y7 z7
  obtain ⟨rfl, N7q, q7⟩ := hQ7
  have N7 := Fr.app N6 N7q
  obtain ⟨fs, hr, hrun, hended, hW, hsame⟩ := X7.leave (v := some (.int (1 : Int32))) (fun h => by rw [Bd.returns] at h; cases h)
  refine ⟨_, _, pre0 _ ?_, hrun, hended, _, _, rfl, ?_, ⟨_, rfl⟩, hW, hsame.mono (by decide) (by decide)⟩
  · show Steps p.tables e below (s₁.setTop (mkF m 0 #[.val (.int p1), .val (.int p2), .val (.int p3), .unset, .unset, .unset, .unset, .unset, .unset, .unset, .unset, .unset, .unset, .unset, .unset, .unset] [])) _
    refine XS.iloadN X0.here hx rfl (hb hby at_0) rfl ?_
    show Steps p.tables e below (s₁.setTop (mkF m 1 #[.val (.int p1), .val (.int p2), .val (.int p3), .unset, .unset, .unset, .unset, .unset, .unset, .unset, .unset, .unset, .unset, .unset, .unset, .unset] [(.int p1)])) _
    refine XS.iconst X0.here hx rfl (hb hby at_1) ?_
    show Steps p.tables e below (s₁.setTop (mkF m 2 #[.val (.int p1), .val (.int p2), .val (.int p3), .unset, .unset, .unset, .unset, .unset, .unset, .unset, .unset, .unset, .unset, .unset, .unset, .unset] [(.int (1 : Int32)), (.int p1)])) _
    refine XS.iand X0.here hx rfl (hb hby at_2) rfl ?_
    show Steps p.tables e below (s₁.setTop (mkF m 3 #[.val (.int p1), .val (.int p2), .val (.int p3), .unset, .unset, .unset, .unset, .unset, .unset, .unset, .unset, .unset, .unset, .unset, .unset, .unset] [(.int (p1 &&& (1 : Int32)))])) _
    refine XS.ifNo X0.here hx rfl (hb hby at_3) rfl ((if0 _ _).trans (feq hc3).1) ?_
    show Steps p.tables e below (s₁.setTop (mkF m 6 #[.val (.int p1), .val (.int p2), .val (.int p3), .unset, .unset, .unset, .unset, .unset, .unset, .unset, .unset, .unset, .unset, .unset, .unset, .unset] [])) _
    refine XS.iconst X0.here hx rfl (hb hby at_6) ?_
    show Steps p.tables e below (s₁.setTop (mkF m 7 #[.val (.int p1), .val (.int p2), .val (.int p3), .unset, .unset, .unset, .unset, .unset, .unset, .unset, .unset, .unset, .unset, .unset, .unset, .unset] [(.int (1 : Int32))])) _
    refine XS.goto X0.here hx rfl (pc0 := 7) (pc' := 11) rfl (hb hby at_7) (by decide) (by decide) ?_
    show Steps p.tables e below (s₁.setTop (mkF m 11 #[.val (.int p1), .val (.int p2), .val (.int p3), .unset, .unset, .unset, .unset, .unset, .unset, .unset, .unset, .unset, .unset, .unset, .unset, .unset] [(.int (1 : Int32))])) _
    refine XS.istoreN X0.here hx rfl (hb hby at_11) rfl (l' := #[.val (.int p1), .val (.int p2), .val (.int p3), .val (.int (1 : Int32)), .unset, .unset, .unset, .unset, .unset, .unset, .unset, .unset, .unset, .unset, .unset, .unset]) rfl ?_
    show Steps p.tables e below (s₁.setTop (mkF m 12 #[.val (.int p1), .val (.int p2), .val (.int p3), .val (.int (1 : Int32)), .unset, .unset, .unset, .unset, .unset, .unset, .unset, .unset, .unset, .unset, .unset, .unset] [])) _
    refine XS.iloadN X0.here hx rfl (hb hby at_12) rfl ?_
    show Steps p.tables e below (s₁.setTop (mkF m 13 #[.val (.int p1), .val (.int p2), .val (.int p3), .val (.int (1 : Int32)), .unset, .unset, .unset, .unset, .unset, .unset, .unset, .unset, .unset, .unset, .unset, .unset] [(.int (1 : Int32))])) _
    refine XS.ifNo X0.here hx rfl (hb hby at_13) rfl ((if0 _ _).trans (feq hc13).1) ?_
    show Steps p.tables e below (s₁.setTop (mkF m 16 #[.val (.int p1), .val (.int p2), .val (.int p3), .val (.int (1 : Int32)), .unset, .unset, .unset, .unset, .unset, .unset, .unset, .unset, .unset, .unset, .unset, .unset] [])) _
    refine st5 _ ?_
    show Steps p.tables e below (T5.setTop (mkF m 19 #[.val (.int p1), .val (.int p2), .val (.int p3), .val (.int (1 : Int32)), .unset, .unset, .unset, .unset, .unset, .unset, .unset, .unset, .unset, .unset, .unset, .unset] [(.ref w4)])) _
    refine XS.goto X5.here hx rfl (pc0 := 19) (pc' := 25) rfl (hb hby at_19) (by decide) (by decide) ?_
    show Steps p.tables e below (T5.setTop (mkF m 25 #[.val (.int p1), .val (.int p2), .val (.int p3), .val (.int (1 : Int32)), .unset, .unset, .unset, .unset, .unset, .unset, .unset, .unset, .unset, .unset, .unset, .unset] [(.ref w4)])) _
    refine XS.astore X5.here hx rfl (hb hby at_25) rfl rfl (l' := #[.val (.int p1), .val (.int p2), .val (.int p3), .val (.int (1 : Int32)), .val (.ref w4), .unset, .unset, .unset, .unset, .unset, .unset, .unset, .unset, .unset, .unset, .unset]) rfl ?_
    show Steps p.tables e below (T5.setTop (mkF m 27 #[.val (.int p1), .val (.int p2), .val (.int p3), .val (.int (1 : Int32)), .val (.ref w4), .unset, .unset, .unset, .unset, .unset, .unset, .unset, .unset, .unset, .unset, .unset] [])) _
    refine XS.iloadN X5.here hx rfl (hb hby at_27) rfl ?_
    show Steps p.tables e below (T5.setTop (mkF m 28 #[.val (.int p1), .val (.int p2), .val (.int p3), .val (.int (1 : Int32)), .val (.ref w4), .unset, .unset, .unset, .unset, .unset, .unset, .unset, .unset, .unset, .unset, .unset] [(.int (1 : Int32))])) _
    refine XS.istore X5.here hx rfl (hb hby at_28) rfl (l' := #[.val (.int p1), .val (.int p2), .val (.int p3), .val (.int (1 : Int32)), .val (.ref w4), .val (.int (1 : Int32)), .unset, .unset, .unset, .unset, .unset, .unset, .unset, .unset, .unset, .unset]) rfl ?_
    show Steps p.tables e below (T5.setTop (mkF m 30 #[.val (.int p1), .val (.int p2), .val (.int p3), .val (.int (1 : Int32)), .val (.ref w4), .val (.int (1 : Int32)), .unset, .unset, .unset, .unset, .unset, .unset, .unset, .unset, .unset, .unset] [])) _
    refine XS.iloadN X5.here hx rfl (hb hby at_30) rfl ?_
    show Steps p.tables e below (T5.setTop (mkF m 31 #[.val (.int p1), .val (.int p2), .val (.int p3), .val (.int (1 : Int32)), .val (.ref w4), .val (.int (1 : Int32)), .unset, .unset, .unset, .unset, .unset, .unset, .unset, .unset, .unset, .unset] [(.int p2)])) _
    jvm_step X5.here [X5.here.top, hx, (hb hby at_31)]
    show Steps p.tables e below (T5.setTop (mkF m 32 #[.val (.int p1), .val (.int p2), .val (.int p3), .val (.int (1 : Int32)), .val (.ref w4), .val (.int (1 : Int32)), .unset, .unset, .unset, .unset, .unset, .unset, .unset, .unset, .unset, .unset] [(.double (FP.i2d p2))])) _
    jvm_step X5.here [X5.here.top, hx, (hb hby at_32)]
    refine ⟨#[.val (.int p1), .val (.int p2), .val (.int p3), .val (.int (1 : Int32)), .val (.ref w4), .val (.int (1 : Int32)), .val (.double (FP.i2d p2)), .second, .unset, .unset, .unset, .unset, .unset, .unset, .unset, .unset], rfl, ?_⟩
    show Steps p.tables e below (T5.setTop (mkF m 34 #[.val (.int p1), .val (.int p2), .val (.int p3), .val (.int (1 : Int32)), .val (.ref w4), .val (.int (1 : Int32)), .val (.double (FP.i2d p2)), .second, .unset, .unset, .unset, .unset, .unset, .unset, .unset, .unset] [])) _
    refine XS.iloadN X5.here hx rfl (hb hby at_34) rfl ?_
    show Steps p.tables e below (T5.setTop (mkF m 35 #[.val (.int p1), .val (.int p2), .val (.int p3), .val (.int (1 : Int32)), .val (.ref w4), .val (.int (1 : Int32)), .val (.double (FP.i2d p2)), .second, .unset, .unset, .unset, .unset, .unset, .unset, .unset, .unset] [(.int p3)])) _
    jvm_step X5.here [X5.here.top, hx, (hb hby at_35)]
    show Steps p.tables e below (T5.setTop (mkF m 36 #[.val (.int p1), .val (.int p2), .val (.int p3), .val (.int (1 : Int32)), .val (.ref w4), .val (.int (1 : Int32)), .val (.double (FP.i2d p2)), .second, .unset, .unset, .unset, .unset, .unset, .unset, .unset, .unset] [(.double (FP.i2d p3))])) _
    jvm_step X5.here [X5.here.top, hx, (hb hby at_36)]
    refine ⟨#[.val (.int p1), .val (.int p2), .val (.int p3), .val (.int (1 : Int32)), .val (.ref w4), .val (.int (1 : Int32)), .val (.double (FP.i2d p2)), .second, .val (.double (FP.i2d p3)), .second, .unset, .unset, .unset, .unset, .unset, .unset], rfl, ?_⟩
    show Steps p.tables e below (T5.setTop (mkF m 38 #[.val (.int p1), .val (.int p2), .val (.int p3), .val (.int (1 : Int32)), .val (.ref w4), .val (.int (1 : Int32)), .val (.double (FP.i2d p2)), .second, .val (.double (FP.i2d p3)), .second, .unset, .unset, .unset, .unset, .unset, .unset] [])) _
    refine XS.aload X5.here hx rfl (hb hby at_38) rfl rfl ?_
    show Steps p.tables e below (T5.setTop (mkF m 40 #[.val (.int p1), .val (.int p2), .val (.int p3), .val (.int (1 : Int32)), .val (.ref w4), .val (.int (1 : Int32)), .val (.double (FP.i2d p2)), .second, .val (.double (FP.i2d p3)), .second, .unset, .unset, .unset, .unset, .unset, .unset] [(.ref w4)])) _
    jvm_step X5.here [X5.here.top, hx, (hb hby at_40)]
    show Steps p.tables e below (T5.setTop (mkF m 42 #[.val (.int p1), .val (.int p2), .val (.int p3), .val (.int (1 : Int32)), .val (.ref w4), .val (.int (1 : Int32)), .val (.double (FP.i2d p2)), .second, .val (.double (FP.i2d p3)), .second, .unset, .unset, .unset, .unset, .unset, .unset] [(.double (FP.i2d p2)), (.ref w4)])) _
    refine st6.trans ?_
    show Steps p.tables e below (T6.setTop (mkF m 45 #[.val (.int p1), .val (.int p2), .val (.int p3), .val (.int (1 : Int32)), .val (.ref w4), .val (.int (1 : Int32)), .val (.double (FP.i2d p2)), .second, .val (.double (FP.i2d p3)), .second, .unset, .unset, .unset, .unset, .unset, .unset] [(.double (FP.i2d p2))])) _
    jvm_step X6.here [X6.here.top, hx, (hb hby at_45)]
    refine ⟨#[.val (.int p1), .val (.int p2), .val (.int p3), .val (.int (1 : Int32)), .val (.ref w4), .val (.int (1 : Int32)), .val (.double (FP.i2d p2)), .second, .val (.double (FP.i2d p3)), .second, .val (.double (FP.i2d p2)), .second, .unset, .unset, .unset, .unset], rfl, ?_⟩
    show Steps p.tables e below (T6.setTop (mkF m 47 #[.val (.int p1), .val (.int p2), .val (.int p3), .val (.int (1 : Int32)), .val (.ref w4), .val (.int (1 : Int32)), .val (.double (FP.i2d p2)), .second, .val (.double (FP.i2d p3)), .second, .val (.double (FP.i2d p2)), .second, .unset, .unset, .unset, .unset] [])) _
    refine XS.aload X6.here hx rfl (hb hby at_47) rfl rfl ?_
    show Steps p.tables e below (T6.setTop (mkF m 49 #[.val (.int p1), .val (.int p2), .val (.int p3), .val (.int (1 : Int32)), .val (.ref w4), .val (.int (1 : Int32)), .val (.double (FP.i2d p2)), .second, .val (.double (FP.i2d p3)), .second, .val (.double (FP.i2d p2)), .second, .unset, .unset, .unset, .unset] [(.ref w4)])) _
    jvm_step X6.here [X6.here.top, hx, (hb hby at_49)]
    show Steps p.tables e below (T6.setTop (mkF m 51 #[.val (.int p1), .val (.int p2), .val (.int p3), .val (.int (1 : Int32)), .val (.ref w4), .val (.int (1 : Int32)), .val (.double (FP.i2d p2)), .second, .val (.double (FP.i2d p3)), .second, .val (.double (FP.i2d p2)), .second, .unset, .unset, .unset, .unset] [(.double (FP.i2d p3)), (.ref w4)])) _
    refine st7.trans ?_
    show Steps p.tables e below (T7.setTop (mkF m 54 #[.val (.int p1), .val (.int p2), .val (.int p3), .val (.int (1 : Int32)), .val (.ref w4), .val (.int (1 : Int32)), .val (.double (FP.i2d p2)), .second, .val (.double (FP.i2d p3)), .second, .val (.double (FP.i2d p2)), .second, .unset, .unset, .unset, .unset] [(.double (FP.i2d p3))])) _
    jvm_step X7.here [X7.here.top, hx, (hb hby at_54)]
    refine ⟨#[.val (.int p1), .val (.int p2), .val (.int p3), .val (.int (1 : Int32)), .val (.ref w4), .val (.int (1 : Int32)), .val (.double (FP.i2d p2)), .second, .val (.double (FP.i2d p3)), .second, .val (.double (FP.i2d p2)), .second, .val (.double (FP.i2d p3)), .second, .unset, .unset], rfl, ?_⟩
    show Steps p.tables e below (T7.setTop (mkF m 56 #[.val (.int p1), .val (.int p2), .val (.int p3), .val (.int (1 : Int32)), .val (.ref w4), .val (.int (1 : Int32)), .val (.double (FP.i2d p2)), .second, .val (.double (FP.i2d p3)), .second, .val (.double (FP.i2d p2)), .second, .val (.double (FP.i2d p3)), .second, .unset, .unset] [])) _
    refine XS.iload X7.here hx rfl (hb hby at_56) rfl ?_
    show Steps p.tables e below (T7.setTop (mkF m 58 #[.val (.int p1), .val (.int p2), .val (.int p3), .val (.int (1 : Int32)), .val (.ref w4), .val (.int (1 : Int32)), .val (.double (FP.i2d p2)), .second, .val (.double (FP.i2d p3)), .second, .val (.double (FP.i2d p2)), .second, .val (.double (FP.i2d p3)), .second, .unset, .unset] [(.int (1 : Int32))])) _
    refine XS.ifNo X7.here hx rfl (hb hby at_58) rfl ((if0 _ _).trans (feq hc58).1) ?_
    show Steps p.tables e below (T7.setTop (mkF m 61 #[.val (.int p1), .val (.int p2), .val (.int p3), .val (.int (1 : Int32)), .val (.ref w4), .val (.int (1 : Int32)), .val (.double (FP.i2d p2)), .second, .val (.double (FP.i2d p3)), .second, .val (.double (FP.i2d p2)), .second, .val (.double (FP.i2d p3)), .second, .unset, .unset] [])) _
    refine XS.iloadN X7.here hx rfl (hb hby at_61) rfl ?_
    show Steps p.tables e below (T7.setTop (mkF m 62 #[.val (.int p1), .val (.int p2), .val (.int p3), .val (.int (1 : Int32)), .val (.ref w4), .val (.int (1 : Int32)), .val (.double (FP.i2d p2)), .second, .val (.double (FP.i2d p3)), .second, .val (.double (FP.i2d p2)), .second, .val (.double (FP.i2d p3)), .second, .unset, .unset] [(.int p2)])) _
    refine XS.iloadN X7.here hx rfl (hb hby at_62) rfl ?_
    show Steps p.tables e below (T7.setTop (mkF m 63 #[.val (.int p1), .val (.int p2), .val (.int p3), .val (.int (1 : Int32)), .val (.ref w4), .val (.int (1 : Int32)), .val (.double (FP.i2d p2)), .second, .val (.double (FP.i2d p3)), .second, .val (.double (FP.i2d p2)), .second, .val (.double (FP.i2d p3)), .second, .unset, .unset] [(.int p3), (.int p2)])) _
    refine XS.icmpNo X7.here hx rfl (hb hby at_63) rfl (tlt hc63).2.1 ?_
    show Steps p.tables e below (T7.setTop (mkF m 66 #[.val (.int p1), .val (.int p2), .val (.int p3), .val (.int (1 : Int32)), .val (.ref w4), .val (.int (1 : Int32)), .val (.double (FP.i2d p2)), .second, .val (.double (FP.i2d p3)), .second, .val (.double (FP.i2d p2)), .second, .val (.double (FP.i2d p3)), .second, .unset, .unset] [])) _
    refine XS.iconst X7.here hx rfl (hb hby at_66) ?_
    show Steps p.tables e below (T7.setTop (mkF m 67 #[.val (.int p1), .val (.int p2), .val (.int p3), .val (.int (1 : Int32)), .val (.ref w4), .val (.int (1 : Int32)), .val (.double (FP.i2d p2)), .second, .val (.double (FP.i2d p3)), .second, .val (.double (FP.i2d p2)), .second, .val (.double (FP.i2d p3)), .second, .unset, .unset] [(.int (1 : Int32))])) _
    refine XS.goto X7.here hx rfl (pc0 := 67) (pc' := 84) rfl (hb hby at_67) (by decide) (by decide) ?_
    show Steps p.tables e below (T7.setTop (mkF m 84 #[.val (.int p1), .val (.int p2), .val (.int p3), .val (.int (1 : Int32)), .val (.ref w4), .val (.int (1 : Int32)), .val (.double (FP.i2d p2)), .second, .val (.double (FP.i2d p3)), .second, .val (.double (FP.i2d p2)), .second, .val (.double (FP.i2d p3)), .second, .unset, .unset] [(.int (1 : Int32))])) _
    refine XS.istore X7.here hx rfl (hb hby at_84) rfl (l' := #[.val (.int p1), .val (.int p2), .val (.int p3), .val (.int (1 : Int32)), .val (.ref w4), .val (.int (1 : Int32)), .val (.double (FP.i2d p2)), .second, .val (.double (FP.i2d p3)), .second, .val (.double (FP.i2d p2)), .second, .val (.double (FP.i2d p3)), .second, .val (.int (1 : Int32)), .unset]) rfl ?_
    show Steps p.tables e below (T7.setTop (mkF m 86 #[.val (.int p1), .val (.int p2), .val (.int p3), .val (.int (1 : Int32)), .val (.ref w4), .val (.int (1 : Int32)), .val (.double (FP.i2d p2)), .second, .val (.double (FP.i2d p3)), .second, .val (.double (FP.i2d p2)), .second, .val (.double (FP.i2d p3)), .second, .val (.int (1 : Int32)), .unset] [])) _
    refine XS.iload X7.here hx rfl (hb hby at_86) rfl ?_
    show Steps p.tables e below (T7.setTop (mkF m 88 #[.val (.int p1), .val (.int p2), .val (.int p3), .val (.int (1 : Int32)), .val (.ref w4), .val (.int (1 : Int32)), .val (.double (FP.i2d p2)), .second, .val (.double (FP.i2d p3)), .second, .val (.double (FP.i2d p2)), .second, .val (.double (FP.i2d p3)), .second, .val (.int (1 : Int32)), .unset] [(.int (1 : Int32))])) _
    refine XS.ifNo X7.here hx rfl (hb hby at_88) rfl ((if0 _ _).trans (feq hc88).1) ?_
    show Steps p.tables e below (T7.setTop (mkF m 91 #[.val (.int p1), .val (.int p2), .val (.int p3), .val (.int (1 : Int32)), .val (.ref w4), .val (.int (1 : Int32)), .val (.double (FP.i2d p2)), .second, .val (.double (FP.i2d p3)), .second, .val (.double (FP.i2d p2)), .second, .val (.double (FP.i2d p3)), .second, .val (.int (1 : Int32)), .unset] [])) _
    refine XS.iloadN X7.here hx rfl (hb hby at_91) rfl ?_
    show Steps p.tables e below (T7.setTop (mkF m 92 #[.val (.int p1), .val (.int p2), .val (.int p3), .val (.int (1 : Int32)), .val (.ref w4), .val (.int (1 : Int32)), .val (.double (FP.i2d p2)), .second, .val (.double (FP.i2d p3)), .second, .val (.double (FP.i2d p2)), .second, .val (.double (FP.i2d p3)), .second, .val (.int (1 : Int32)), .unset] [(.int p3)])) _
    refine XS.iloadN X7.here hx rfl (hb hby at_92) rfl ?_
    show Steps p.tables e below (T7.setTop (mkF m 93 #[.val (.int p1), .val (.int p2), .val (.int p3), .val (.int (1 : Int32)), .val (.ref w4), .val (.int (1 : Int32)), .val (.double (FP.i2d p2)), .second, .val (.double (FP.i2d p3)), .second, .val (.double (FP.i2d p2)), .second, .val (.double (FP.i2d p3)), .second, .val (.int (1 : Int32)), .unset] [(.int p2), (.int p3)])) _
    refine XS.icmpYes X7.here hx rfl (pc0 := 93) (pc' := 100) rfl (hb hby at_93) rfl (flt hc93).2.1 (by decide) (by decide) ?_
    show Steps p.tables e below (T7.setTop (mkF m 100 #[.val (.int p1), .val (.int p2), .val (.int p3), .val (.int (1 : Int32)), .val (.ref w4), .val (.int (1 : Int32)), .val (.double (FP.i2d p2)), .second, .val (.double (FP.i2d p3)), .second, .val (.double (FP.i2d p2)), .second, .val (.double (FP.i2d p3)), .second, .val (.int (1 : Int32)), .unset] [])) _
    refine XS.iconst X7.here hx rfl (hb hby at_100) ?_
    show Steps p.tables e below (T7.setTop (mkF m 101 #[.val (.int p1), .val (.int p2), .val (.int p3), .val (.int (1 : Int32)), .val (.ref w4), .val (.int (1 : Int32)), .val (.double (FP.i2d p2)), .second, .val (.double (FP.i2d p3)), .second, .val (.double (FP.i2d p2)), .second, .val (.double (FP.i2d p3)), .second, .val (.int (1 : Int32)), .unset] [(.int (0 : Int32))])) _
    refine XS.goto X7.here hx rfl (pc0 := 101) (pc' := 114) rfl (hb hby at_101) (by decide) (by decide) ?_
    show Steps p.tables e below (T7.setTop (mkF m 114 #[.val (.int p1), .val (.int p2), .val (.int p3), .val (.int (1 : Int32)), .val (.ref w4), .val (.int (1 : Int32)), .val (.double (FP.i2d p2)), .second, .val (.double (FP.i2d p3)), .second, .val (.double (FP.i2d p2)), .second, .val (.double (FP.i2d p3)), .second, .val (.int (1 : Int32)), .unset] [(.int (0 : Int32))])) _
    refine XS.istore X7.here hx rfl (hb hby at_114) rfl (l' := #[.val (.int p1), .val (.int p2), .val (.int p3), .val (.int (1 : Int32)), .val (.ref w4), .val (.int (1 : Int32)), .val (.double (FP.i2d p2)), .second, .val (.double (FP.i2d p3)), .second, .val (.double (FP.i2d p2)), .second, .val (.double (FP.i2d p3)), .second, .val (.int (1 : Int32)), .val (.int (0 : Int32))]) rfl ?_
    show Steps p.tables e below (T7.setTop (mkF m 116 #[.val (.int p1), .val (.int p2), .val (.int p3), .val (.int (1 : Int32)), .val (.ref w4), .val (.int (1 : Int32)), .val (.double (FP.i2d p2)), .second, .val (.double (FP.i2d p3)), .second, .val (.double (FP.i2d p2)), .second, .val (.double (FP.i2d p3)), .second, .val (.int (1 : Int32)), .val (.int (0 : Int32))] [])) _
    jvm_step X7.here [X7.here.top, hx, (hb hby at_116)]
    show Steps p.tables e below (T7.setTop (mkF m 118 #[.val (.int p1), .val (.int p2), .val (.int p3), .val (.int (1 : Int32)), .val (.ref w4), .val (.int (1 : Int32)), .val (.double (FP.i2d p2)), .second, .val (.double (FP.i2d p3)), .second, .val (.double (FP.i2d p2)), .second, .val (.double (FP.i2d p3)), .second, .val (.int (1 : Int32)), .val (.int (0 : Int32))] [(.double (FP.i2d p2))])) _
    jvm_step X7.here [X7.here.top, hx, (hb hby at_118)]
    show Steps p.tables e below (T7.setTop (mkF m 120 #[.val (.int p1), .val (.int p2), .val (.int p3), .val (.int (1 : Int32)), .val (.ref w4), .val (.int (1 : Int32)), .val (.double (FP.i2d p2)), .second, .val (.double (FP.i2d p3)), .second, .val (.double (FP.i2d p2)), .second, .val (.double (FP.i2d p3)), .second, .val (.int (1 : Int32)), .val (.int (0 : Int32))] [(.double (FP.i2d p3)), (.double (FP.i2d p2))])) _
    jvm_step X7.here [X7.here.top, hx, (hb hby at_120)]
    show Steps p.tables e below (T7.setTop (mkF m 121 #[.val (.int p1), .val (.int p2), .val (.int p3), .val (.int (1 : Int32)), .val (.ref w4), .val (.int (1 : Int32)), .val (.double (FP.i2d p2)), .second, .val (.double (FP.i2d p3)), .second, .val (.double (FP.i2d p2)), .second, .val (.double (FP.i2d p3)), .second, .val (.int (1 : Int32)), .val (.int (0 : Int32))] [(.int (cmpValue (FP.dcmp (FP.i2d p2) (FP.i2d p3)) .g))])) _
    refine XS.ifNo X7.here hx rfl (hb hby at_121) rfl ((if0 _ _).trans (tlt ((by rw [own_lt (own_di p2) (own_di p3) (by have := hc63; rw [Int32.lt_iff_toInt_lt] at this; omega)]; decide) : (cmpValue (FP.dcmp (FP.i2d p2) (FP.i2d p3)) .g) < (0 : Int32))).2.1) ?_
    show Steps p.tables e below (T7.setTop (mkF m 124 #[.val (.int p1), .val (.int p2), .val (.int p3), .val (.int (1 : Int32)), .val (.ref w4), .val (.int (1 : Int32)), .val (.double (FP.i2d p2)), .second, .val (.double (FP.i2d p3)), .second, .val (.double (FP.i2d p2)), .second, .val (.double (FP.i2d p3)), .second, .val (.int (1 : Int32)), .val (.int (0 : Int32))] [])) _
    refine XS.iconst X7.here hx rfl (hb hby at_124) ?_
    show Steps p.tables e below (T7.setTop (mkF m 125 #[.val (.int p1), .val (.int p2), .val (.int p3), .val (.int (1 : Int32)), .val (.ref w4), .val (.int (1 : Int32)), .val (.double (FP.i2d p2)), .second, .val (.double (FP.i2d p3)), .second, .val (.double (FP.i2d p2)), .second, .val (.double (FP.i2d p3)), .second, .val (.int (1 : Int32)), .val (.int (0 : Int32))] [(.int (1 : Int32))])) _
    refine XS.goto X7.here hx rfl (pc0 := 125) (pc' := 129) rfl (hb hby at_125) (by decide) (by decide) ?_
    show Steps p.tables e below (T7.setTop (mkF m 129 #[.val (.int p1), .val (.int p2), .val (.int p3), .val (.int (1 : Int32)), .val (.ref w4), .val (.int (1 : Int32)), .val (.double (FP.i2d p2)), .second, .val (.double (FP.i2d p3)), .second, .val (.double (FP.i2d p2)), .second, .val (.double (FP.i2d p3)), .second, .val (.int (1 : Int32)), .val (.int (0 : Int32))] [(.int (1 : Int32))])) _
    refine XS.iload X7.here hx rfl (hb hby at_129) rfl ?_
    show Steps p.tables e below (T7.setTop (mkF m 131 #[.val (.int p1), .val (.int p2), .val (.int p3), .val (.int (1 : Int32)), .val (.ref w4), .val (.int (1 : Int32)), .val (.double (FP.i2d p2)), .second, .val (.double (FP.i2d p3)), .second, .val (.double (FP.i2d p2)), .second, .val (.double (FP.i2d p3)), .second, .val (.int (1 : Int32)), .val (.int (0 : Int32))] [(.int (1 : Int32)), (.int (1 : Int32))])) _
    refine XS.icmpNo X7.here hx rfl (hb hby at_131) rfl (teq (rfl : (1 : Int32) = (1 : Int32))).2 ?_
    show Steps p.tables e below (T7.setTop (mkF m 134 #[.val (.int p1), .val (.int p2), .val (.int p3), .val (.int (1 : Int32)), .val (.ref w4), .val (.int (1 : Int32)), .val (.double (FP.i2d p2)), .second, .val (.double (FP.i2d p3)), .second, .val (.double (FP.i2d p2)), .second, .val (.double (FP.i2d p3)), .second, .val (.int (1 : Int32)), .val (.int (0 : Int32))] [])) _
    jvm_step X7.here [X7.here.top, hx, (hb hby at_134)]
    show Steps p.tables e below (T7.setTop (mkF m 136 #[.val (.int p1), .val (.int p2), .val (.int p3), .val (.int (1 : Int32)), .val (.ref w4), .val (.int (1 : Int32)), .val (.double (FP.i2d p2)), .second, .val (.double (FP.i2d p3)), .second, .val (.double (FP.i2d p2)), .second, .val (.double (FP.i2d p3)), .second, .val (.int (1 : Int32)), .val (.int (0 : Int32))] [(.double (FP.i2d p3))])) _
    jvm_step X7.here [X7.here.top, hx, (hb hby at_136)]
    show Steps p.tables e below (T7.setTop (mkF m 138 #[.val (.int p1), .val (.int p2), .val (.int p3), .val (.int (1 : Int32)), .val (.ref w4), .val (.int (1 : Int32)), .val (.double (FP.i2d p2)), .second, .val (.double (FP.i2d p3)), .second, .val (.double (FP.i2d p2)), .second, .val (.double (FP.i2d p3)), .second, .val (.int (1 : Int32)), .val (.int (0 : Int32))] [(.double (FP.i2d p2)), (.double (FP.i2d p3))])) _
    jvm_step X7.here [X7.here.top, hx, (hb hby at_138)]
    show Steps p.tables e below (T7.setTop (mkF m 139 #[.val (.int p1), .val (.int p2), .val (.int p3), .val (.int (1 : Int32)), .val (.ref w4), .val (.int (1 : Int32)), .val (.double (FP.i2d p2)), .second, .val (.double (FP.i2d p3)), .second, .val (.double (FP.i2d p2)), .second, .val (.double (FP.i2d p3)), .second, .val (.int (1 : Int32)), .val (.int (0 : Int32))] [(.int (cmpValue (FP.dcmp (FP.i2d p3) (FP.i2d p2)) .g))])) _
    refine XS.ifYes X7.here hx rfl (pc0 := 139) (pc' := 146) rfl (hb hby at_139) rfl ((if0 _ _).trans (flt ((by rw [own_gt (own_di p3) (own_di p2) (by have := hc63; rw [Int32.lt_iff_toInt_lt] at this; omega)]; decide) : ¬ ((cmpValue (FP.dcmp (FP.i2d p3) (FP.i2d p2)) .g) < (0 : Int32)))).2.1) (by decide) (by decide) ?_
    show Steps p.tables e below (T7.setTop (mkF m 146 #[.val (.int p1), .val (.int p2), .val (.int p3), .val (.int (1 : Int32)), .val (.ref w4), .val (.int (1 : Int32)), .val (.double (FP.i2d p2)), .second, .val (.double (FP.i2d p3)), .second, .val (.double (FP.i2d p2)), .second, .val (.double (FP.i2d p3)), .second, .val (.int (1 : Int32)), .val (.int (0 : Int32))] [])) _
    refine XS.iconst X7.here hx rfl (hb hby at_146) ?_
    show Steps p.tables e below (T7.setTop (mkF m 147 #[.val (.int p1), .val (.int p2), .val (.int p3), .val (.int (1 : Int32)), .val (.ref w4), .val (.int (1 : Int32)), .val (.double (FP.i2d p2)), .second, .val (.double (FP.i2d p3)), .second, .val (.double (FP.i2d p2)), .second, .val (.double (FP.i2d p3)), .second, .val (.int (1 : Int32)), .val (.int (0 : Int32))] [(.int (0 : Int32))])) _
    refine XS.iload X7.here hx rfl (hb hby at_147) rfl ?_
    show Steps p.tables e below (T7.setTop (mkF m 149 #[.val (.int p1), .val (.int p2), .val (.int p3), .val (.int (1 : Int32)), .val (.ref w4), .val (.int (1 : Int32)), .val (.double (FP.i2d p2)), .second, .val (.double (FP.i2d p3)), .second, .val (.double (FP.i2d p2)), .second, .val (.double (FP.i2d p3)), .second, .val (.int (1 : Int32)), .val (.int (0 : Int32))] [(.int (0 : Int32)), (.int (0 : Int32))])) _
    refine XS.icmpNo X7.here hx rfl (hb hby at_149) rfl (teq (rfl : (0 : Int32) = (0 : Int32))).2 ?_
    show Steps p.tables e below (T7.setTop (mkF m 152 #[.val (.int p1), .val (.int p2), .val (.int p3), .val (.int (1 : Int32)), .val (.ref w4), .val (.int (1 : Int32)), .val (.double (FP.i2d p2)), .second, .val (.double (FP.i2d p3)), .second, .val (.double (FP.i2d p2)), .second, .val (.double (FP.i2d p3)), .second, .val (.int (1 : Int32)), .val (.int (0 : Int32))] [])) _
    jvm_step X7.here [X7.here.top, hx, (hb hby at_152)]
    show Steps p.tables e below (T7.setTop (mkF m 154 #[.val (.int p1), .val (.int p2), .val (.int p3), .val (.int (1 : Int32)), .val (.ref w4), .val (.int (1 : Int32)), .val (.double (FP.i2d p2)), .second, .val (.double (FP.i2d p3)), .second, .val (.double (FP.i2d p2)), .second, .val (.double (FP.i2d p3)), .second, .val (.int (1 : Int32)), .val (.int (0 : Int32))] [(.double (FP.i2d p2))])) _
    jvm_step X7.here [X7.here.top, hx, (hb hby at_154)]
    show Steps p.tables e below (T7.setTop (mkF m 156 #[.val (.int p1), .val (.int p2), .val (.int p3), .val (.int (1 : Int32)), .val (.ref w4), .val (.int (1 : Int32)), .val (.double (FP.i2d p2)), .second, .val (.double (FP.i2d p3)), .second, .val (.double (FP.i2d p2)), .second, .val (.double (FP.i2d p3)), .second, .val (.int (1 : Int32)), .val (.int (0 : Int32))] [(.double (FP.i2d p3)), (.double (FP.i2d p2))])) _
    jvm_step X7.here [X7.here.top, hx, (hb hby at_156)]
    show Steps p.tables e below (T7.setTop (mkF m 157 #[.val (.int p1), .val (.int p2), .val (.int p3), .val (.int (1 : Int32)), .val (.ref w4), .val (.int (1 : Int32)), .val (.double (FP.i2d p2)), .second, .val (.double (FP.i2d p3)), .second, .val (.double (FP.i2d p2)), .second, .val (.double (FP.i2d p3)), .second, .val (.int (1 : Int32)), .val (.int (0 : Int32))] [(.int (cmpValue (FP.dcmp (FP.i2d p2) (FP.i2d p3)) .l))])) _
    refine XS.ifYes X7.here hx rfl (pc0 := 157) (pc' := 164) rfl (hb hby at_157) rfl ((if0 _ _).trans (feq ((by rw [own_lt (own_di p2) (own_di p3) (by have := hc63; rw [Int32.lt_iff_toInt_lt] at this; omega)]; decide) : ¬ ((cmpValue (FP.dcmp (FP.i2d p2) (FP.i2d p3)) .l) = (0 : Int32)))).2) (by decide) (by decide) ?_
    show Steps p.tables e below (T7.setTop (mkF m 164 #[.val (.int p1), .val (.int p2), .val (.int p3), .val (.int (1 : Int32)), .val (.ref w4), .val (.int (1 : Int32)), .val (.double (FP.i2d p2)), .second, .val (.double (FP.i2d p3)), .second, .val (.double (FP.i2d p2)), .second, .val (.double (FP.i2d p3)), .second, .val (.int (1 : Int32)), .val (.int (0 : Int32))] [])) _
    refine XS.iconst X7.here hx rfl (hb hby at_164) ?_
    show Steps p.tables e below (T7.setTop (mkF m 165 #[.val (.int p1), .val (.int p2), .val (.int p3), .val (.int (1 : Int32)), .val (.ref w4), .val (.int (1 : Int32)), .val (.double (FP.i2d p2)), .second, .val (.double (FP.i2d p3)), .second, .val (.double (FP.i2d p2)), .second, .val (.double (FP.i2d p3)), .second, .val (.int (1 : Int32)), .val (.int (0 : Int32))] [(.int (0 : Int32))])) _
    refine XS.iloadN X7.here hx rfl (hb hby at_165) rfl ?_
    show Steps p.tables e below (T7.setTop (mkF m 166 #[.val (.int p1), .val (.int p2), .val (.int p3), .val (.int (1 : Int32)), .val (.ref w4), .val (.int (1 : Int32)), .val (.double (FP.i2d p2)), .second, .val (.double (FP.i2d p3)), .second, .val (.double (FP.i2d p2)), .second, .val (.double (FP.i2d p3)), .second, .val (.int (1 : Int32)), .val (.int (0 : Int32))] [(.int p2), (.int (0 : Int32))])) _
    refine XS.iloadN X7.here hx rfl (hb hby at_166) rfl ?_
    show Steps p.tables e below (T7.setTop (mkF m 167 #[.val (.int p1), .val (.int p2), .val (.int p3), .val (.int (1 : Int32)), .val (.ref w4), .val (.int (1 : Int32)), .val (.double (FP.i2d p2)), .second, .val (.double (FP.i2d p3)), .second, .val (.double (FP.i2d p2)), .second, .val (.double (FP.i2d p3)), .second, .val (.int (1 : Int32)), .val (.int (0 : Int32))] [(.int p3), (.int p2), (.int (0 : Int32))])) _
    refine XS.icmpYes X7.here hx rfl (pc0 := 167) (pc' := 174) rfl (hb hby at_167) rfl (feq hc167).2 (by decide) (by decide) ?_
    show Steps p.tables e below (T7.setTop (mkF m 174 #[.val (.int p1), .val (.int p2), .val (.int p3), .val (.int (1 : Int32)), .val (.ref w4), .val (.int (1 : Int32)), .val (.double (FP.i2d p2)), .second, .val (.double (FP.i2d p3)), .second, .val (.double (FP.i2d p2)), .second, .val (.double (FP.i2d p3)), .second, .val (.int (1 : Int32)), .val (.int (0 : Int32))] [(.int (0 : Int32))])) _
    refine XS.iconst X7.here hx rfl (hb hby at_174) ?_
    show Steps p.tables e below (T7.setTop (mkF m 175 #[.val (.int p1), .val (.int p2), .val (.int p3), .val (.int (1 : Int32)), .val (.ref w4), .val (.int (1 : Int32)), .val (.double (FP.i2d p2)), .second, .val (.double (FP.i2d p3)), .second, .val (.double (FP.i2d p2)), .second, .val (.double (FP.i2d p3)), .second, .val (.int (1 : Int32)), .val (.int (0 : Int32))] [(.int (0 : Int32)), (.int (0 : Int32))])) _
    refine XS.icmpNo X7.here hx rfl (hb hby at_175) rfl (teq (rfl : (0 : Int32) = (0 : Int32))).2 ?_
    show Steps p.tables e below (T7.setTop (mkF m 178 #[.val (.int p1), .val (.int p2), .val (.int p3), .val (.int (1 : Int32)), .val (.ref w4), .val (.int (1 : Int32)), .val (.double (FP.i2d p2)), .second, .val (.double (FP.i2d p3)), .second, .val (.double (FP.i2d p2)), .second, .val (.double (FP.i2d p3)), .second, .val (.int (1 : Int32)), .val (.int (0 : Int32))] [])) _
    refine XS.iconst X7.here hx rfl (hb hby at_178) ?_
    show Steps p.tables e below (T7.setTop (mkF m 179 #[.val (.int p1), .val (.int p2), .val (.int p3), .val (.int (1 : Int32)), .val (.ref w4), .val (.int (1 : Int32)), .val (.double (FP.i2d p2)), .second, .val (.double (FP.i2d p3)), .second, .val (.double (FP.i2d p2)), .second, .val (.double (FP.i2d p3)), .second, .val (.int (1 : Int32)), .val (.int (0 : Int32))] [(.int (1 : Int32))])) _
    refine XS.goto X7.here hx rfl (pc0 := 179) (pc' := 183) rfl (hb hby at_179) (by decide) (by decide) ?_
    show Steps p.tables e below (T7.setTop (mkF m 183 #[.val (.int p1), .val (.int p2), .val (.int p3), .val (.int (1 : Int32)), .val (.ref w4), .val (.int (1 : Int32)), .val (.double (FP.i2d p2)), .second, .val (.double (FP.i2d p3)), .second, .val (.double (FP.i2d p2)), .second, .val (.double (FP.i2d p3)), .second, .val (.int (1 : Int32)), .val (.int (0 : Int32))] [(.int (1 : Int32))])) _
    exact retN X7 hx (t := .boolean) Bd.returns (by simp) (hb hby at_183) hr
  · show Q0a Z p1 p2 p3 w4 h0 n0 _ T7.heap _
    exact ⟨rfl, N7⟩
def Q0b (Z : State) (p1 : Int32) (p2 : Int32) (p3 : Int32) (w4 : Addr) (h0 : Heap) (n0 : Nat) (v : Option Value) (h : Heap) (L : List Loc) : Prop := v = some (.int (1 : Int32)) ∧ Fr n0 L
set_option maxRecDepth 65536 in
set_option maxHeartbeats 40000000 in
theorem rm0b (l : Launch) (Z : State) (a0 : Array Value) (hw : ∀ d ∈ tables_1, d.before a0 Z = true) (ws : List Jvm.Cond) (p1 : Int32) (p2 : Int32) (p3 : Int32) (w4 : Addr) (h0 : Heap) (n0 : Nat) (Z0 : n0 ≤ h0.size) (S_NIDF : Sta Z h0 "com/example/upweight/upweight/Specificity" "NIDF" "Lcom/example/upweight/upweight/Specificity;" (.ref w4)) (E_w4 : Exa Z h0 w4 "com/example/upweight/upweight/Specificity$2") (FH : Fld Z h0 w4 "com/example/upweight/upweight/Specificity" "higherIsMoreSpecific" "Z" (.int 1)) (hc3 : ¬ ((p1 &&& (1 : Int32)) = (0 : Int32))) (hc13 : ¬ ((1 : Int32) = (0 : Int32))) (hc58 : ¬ ((1 : Int32) = (0 : Int32))) (hc63 : ¬ (p2 < p3)) (hc88 : ¬ ((1 : Int32) = (0 : Int32))) (hc93 : p3 < p2) (hc167 : ¬ (p2 = p3)) :
    MetFree l x (head1 (Jvm.Cond.code x code maxLocals ret :: ws) room_1) (fun a U => a = #[(.int p1), (.int p2), (.int p3)] ∧ Z.Warmed39 U.vm ∧ U.heap = h0) (fun _ _ _ _ _ => True) (fun _ U o U' => ∃ v L, o = .returned v ∧ Q0b Z p1 p2 p3 w4 h0 n0 v U'.heap L ∧ FrameEnd U o U' L room_1.cells room_1.slots) := by
  refine MetFree.of_bodySF (plainFor_of_name pn_0) hisR ?_
  intro p e s m args below meth c s₁ Bd hml0 hP hK
  obtain ⟨rfl, hZ, hh⟩ := hP
  have hx := Bd.exec
  have hby := Bd.bytes
  have hml : c.maxLocals = 16 := hml0
  have hown : s.vm.findClass "com/example/upweight/upweight/SpecificityLeastSpecificFirstKeyPinLaw" = some m.cls := findClass_of_methodNamed Bd.named
  have hnm := (name_of_methodNamed Bd.named Bd.method).1
  have X0 : Stand p l e room_1 s m #[(.int p1), (.int p2), (.int p3)] below meth c s₁ [] 0 0 := Stand.of_body Bd
  have e0 : s₁.heap = h0 := by rw [← hh, Bd.state]; rfl
  have N0 := Fr.nil n0
  have pre0 : ∀ t, Steps p.tables e below (s₁.setTop (mkF m 0 #[.val (.int p1), .val (.int p2), .val (.int p3), .unset, .unset, .unset, .unset, .unset, .unset, .unset, .unset, .unset, .unset, .unset, .unset, .unset] [])) t → Steps p.tables e below (s₁.setTop (entryFrame m #[(.int p1), (.int p2), (.int p3)] maxLocals)) t := fun t k => castTop (ef_0 m p1 p2 p3) k
  obtain ⟨T5, X5, e5, st5⟩ := getS2 X0 hx hZ hown (host := "") (Or.inl (hw _ (List.mem_of_getElem? (i := 10) rfl))) Via.refl e0 S_NIDF (g := (mkF m 16 #[.val (.int p1), .val (.int p2), .val (.int p3), .val (.int (1 : Int32)), .unset, .unset, .unset, .unset, .unset, .unset, .unset, .unset, .unset, .unset, .unset, .unset] [])) rfl (hb hby at_16)
  obtain ⟨cq6, kq6, q6a, q6b, q6c⟩ := isOf hZ e5 E_w4
  obtain ⟨_, _, ⟨T6, L6, k6, n6⟩, -, X6, ⟨Lc6, hQ6, l6, y6, z6⟩, st6⟩ := X5.virtualBack hx (y := (⟨"com/example/upweight/upweight/Specificity", "leastSpecificFirstKey", "(D)D"⟩ : MethodName)) (z := (⟨"com/example/upweight/upweight/Specificity", "leastSpecificFirstKey", "(D)D"⟩ : MethodName)) hown (mvT hZ (hw _ (List.mem_of_getElem? (i := 3) rfl))) (mvT hZ (hw _ (List.mem_of_getElem? (i := 4) rfl))) (notFace_of_selects (args := #[]) (mvT hZ (hw _ (List.mem_of_getElem? (i := 12) rfl)))) (mvT hZ (hw _ (List.mem_of_getElem? (i := 12) rfl))) (mvT hZ (hw _ (List.mem_of_getElem? (i := 5) rfl))) (by decide) (backOf (W := 0) (rm1f l Z a0 hw [] w4 (FP.i2d p2) 1 h0 n0 Z0 FH (by decide)) hZ (hw _ (List.mem_of_getElem? (i := 7) rfl)) (hw _ (List.mem_of_getElem? (i := 1) rfl)) (by decide) (by decide)) q6a q6c (g := (mkF m 42 #[.val (.int p1), .val (.int p2), .val (.int p3), .val (.int (1 : Int32)), .val (.ref w4), .val (.int (1 : Int32)), .val (.double (FP.i2d p2)), .second, .val (.double (FP.i2d p3)), .second, .unset, .unset, .unset, .unset, .unset, .unset] [(.double (FP.i2d p2)), (.ref w4)])) rfl (by rw [hml]; rfl) (Steps.refl _) (argsL := [(.double (FP.i2d p2))]) (rest := []) (lenOf pd_0_0 rfl) rfl (by show 2 * 0 + _ ≤ _; exact Nat.le_of_eq rfl) (hb hby at_42) (fun _ _ => ⟨rfl, e5, (by decide : 0 + 0 ≤ _), (by decide : 0 + 0 ≤ _)⟩)
  dsimp only [Pt.U, Pt.locs, Pt.cells, Pt.slots] at X6 l6 y6 z6 st6 hQ6
  subst l6 y6 z6
  obtain ⟨rfl, N6q, q6⟩ := hQ6
  have K6 : Keep h0 T6.heap [] := by rw [q6]; exact Keep.refl _ _
  have N6 := Fr.app N0 N6q
  obtain ⟨cq7, kq7, q7a, q7b, q7c⟩ := isOf hZ rfl (E_w4.keep K6)
  obtain ⟨_, _, ⟨T7, L7, k7, n7⟩, -, X7, ⟨Lc7, hQ7, l7, y7, z7⟩, st7⟩ := X6.virtualBack hx (y := (⟨"com/example/upweight/upweight/Specificity", "leastSpecificFirstKey", "(D)D"⟩ : MethodName)) (z := (⟨"com/example/upweight/upweight/Specificity", "leastSpecificFirstKey", "(D)D"⟩ : MethodName)) hown (mvT hZ (hw _ (List.mem_of_getElem? (i := 3) rfl))) (mvT hZ (hw _ (List.mem_of_getElem? (i := 4) rfl))) (notFace_of_selects (args := #[]) (mvT hZ (hw _ (List.mem_of_getElem? (i := 12) rfl)))) (mvT hZ (hw _ (List.mem_of_getElem? (i := 12) rfl))) (mvT hZ (hw _ (List.mem_of_getElem? (i := 5) rfl))) (by decide) (backOf (W := 0) (rm1f l Z a0 hw [] w4 (FP.i2d p3) 1 T6.heap n0 (by rw [q6]; exact Z0) (by rw [q6]; exact FH) (by decide)) hZ (hw _ (List.mem_of_getElem? (i := 7) rfl)) (hw _ (List.mem_of_getElem? (i := 1) rfl)) (by decide) (by decide)) q7a q7c (g := (mkF m 51 #[.val (.int p1), .val (.int p2), .val (.int p3), .val (.int (1 : Int32)), .val (.ref w4), .val (.int (1 : Int32)), .val (.double (FP.i2d p2)), .second, .val (.double (FP.i2d p3)), .second, .val (.double (FP.i2d p2)), .second, .unset, .unset, .unset, .unset] [(.double (FP.i2d p3)), (.ref w4)])) rfl (by rw [hml]; rfl) (Steps.refl _) (argsL := [(.double (FP.i2d p3))]) (rest := []) (lenOf pd_0_0 rfl) rfl (by show 2 * 0 + _ ≤ _; exact Nat.le_of_eq rfl) (hb hby at_51) (fun _ _ => ⟨rfl, rfl, (by decide : 0 + 0 ≤ _), (by decide : 0 + 0 ≤ _)⟩)
  dsimp only [Pt.U, Pt.locs, Pt.cells, Pt.slots] at X7 l7 y7 z7 st7 hQ7
  subst l7 y7 z7
  obtain ⟨rfl, N7q, q7⟩ := hQ7
  have N7 := Fr.app N6 N7q
  obtain ⟨fs, hr, hrun, hended, hW, hsame⟩ := X7.leave (v := some (.int (1 : Int32))) (fun h => by rw [Bd.returns] at h; cases h)
  refine ⟨_, _, pre0 _ ?_, hrun, hended, _, _, rfl, ?_, ⟨_, rfl⟩, hW, hsame.mono (by decide) (by decide)⟩
  · show Steps p.tables e below (s₁.setTop (mkF m 0 #[.val (.int p1), .val (.int p2), .val (.int p3), .unset, .unset, .unset, .unset, .unset, .unset, .unset, .unset, .unset, .unset, .unset, .unset, .unset] [])) _
    refine XS.iloadN X0.here hx rfl (hb hby at_0) rfl ?_
    show Steps p.tables e below (s₁.setTop (mkF m 1 #[.val (.int p1), .val (.int p2), .val (.int p3), .unset, .unset, .unset, .unset, .unset, .unset, .unset, .unset, .unset, .unset, .unset, .unset, .unset] [(.int p1)])) _
    refine XS.iconst X0.here hx rfl (hb hby at_1) ?_
    show Steps p.tables e below (s₁.setTop (mkF m 2 #[.val (.int p1), .val (.int p2), .val (.int p3), .unset, .unset, .unset, .unset, .unset, .unset, .unset, .unset, .unset, .unset, .unset, .unset, .unset] [(.int (1 : Int32)), (.int p1)])) _
    refine XS.iand X0.here hx rfl (hb hby at_2) rfl ?_
    show Steps p.tables e below (s₁.setTop (mkF m 3 #[.val (.int p1), .val (.int p2), .val (.int p3), .unset, .unset, .unset, .unset, .unset, .unset, .unset, .unset, .unset, .unset, .unset, .unset, .unset] [(.int (p1 &&& (1 : Int32)))])) _
    refine XS.ifNo X0.here hx rfl (hb hby at_3) rfl ((if0 _ _).trans (feq hc3).1) ?_
    show Steps p.tables e below (s₁.setTop (mkF m 6 #[.val (.int p1), .val (.int p2), .val (.int p3), .unset, .unset, .unset, .unset, .unset, .unset, .unset, .unset, .unset, .unset, .unset, .unset, .unset] [])) _
    refine XS.iconst X0.here hx rfl (hb hby at_6) ?_
    show Steps p.tables e below (s₁.setTop (mkF m 7 #[.val (.int p1), .val (.int p2), .val (.int p3), .unset, .unset, .unset, .unset, .unset, .unset, .unset, .unset, .unset, .unset, .unset, .unset, .unset] [(.int (1 : Int32))])) _
    refine XS.goto X0.here hx rfl (pc0 := 7) (pc' := 11) rfl (hb hby at_7) (by decide) (by decide) ?_
    show Steps p.tables e below (s₁.setTop (mkF m 11 #[.val (.int p1), .val (.int p2), .val (.int p3), .unset, .unset, .unset, .unset, .unset, .unset, .unset, .unset, .unset, .unset, .unset, .unset, .unset] [(.int (1 : Int32))])) _
    refine XS.istoreN X0.here hx rfl (hb hby at_11) rfl (l' := #[.val (.int p1), .val (.int p2), .val (.int p3), .val (.int (1 : Int32)), .unset, .unset, .unset, .unset, .unset, .unset, .unset, .unset, .unset, .unset, .unset, .unset]) rfl ?_
    show Steps p.tables e below (s₁.setTop (mkF m 12 #[.val (.int p1), .val (.int p2), .val (.int p3), .val (.int (1 : Int32)), .unset, .unset, .unset, .unset, .unset, .unset, .unset, .unset, .unset, .unset, .unset, .unset] [])) _
    refine XS.iloadN X0.here hx rfl (hb hby at_12) rfl ?_
    show Steps p.tables e below (s₁.setTop (mkF m 13 #[.val (.int p1), .val (.int p2), .val (.int p3), .val (.int (1 : Int32)), .unset, .unset, .unset, .unset, .unset, .unset, .unset, .unset, .unset, .unset, .unset, .unset] [(.int (1 : Int32))])) _
    refine XS.ifNo X0.here hx rfl (hb hby at_13) rfl ((if0 _ _).trans (feq hc13).1) ?_
    show Steps p.tables e below (s₁.setTop (mkF m 16 #[.val (.int p1), .val (.int p2), .val (.int p3), .val (.int (1 : Int32)), .unset, .unset, .unset, .unset, .unset, .unset, .unset, .unset, .unset, .unset, .unset, .unset] [])) _
    refine st5 _ ?_
    show Steps p.tables e below (T5.setTop (mkF m 19 #[.val (.int p1), .val (.int p2), .val (.int p3), .val (.int (1 : Int32)), .unset, .unset, .unset, .unset, .unset, .unset, .unset, .unset, .unset, .unset, .unset, .unset] [(.ref w4)])) _
    refine XS.goto X5.here hx rfl (pc0 := 19) (pc' := 25) rfl (hb hby at_19) (by decide) (by decide) ?_
    show Steps p.tables e below (T5.setTop (mkF m 25 #[.val (.int p1), .val (.int p2), .val (.int p3), .val (.int (1 : Int32)), .unset, .unset, .unset, .unset, .unset, .unset, .unset, .unset, .unset, .unset, .unset, .unset] [(.ref w4)])) _
    refine XS.astore X5.here hx rfl (hb hby at_25) rfl rfl (l' := #[.val (.int p1), .val (.int p2), .val (.int p3), .val (.int (1 : Int32)), .val (.ref w4), .unset, .unset, .unset, .unset, .unset, .unset, .unset, .unset, .unset, .unset, .unset]) rfl ?_
    show Steps p.tables e below (T5.setTop (mkF m 27 #[.val (.int p1), .val (.int p2), .val (.int p3), .val (.int (1 : Int32)), .val (.ref w4), .unset, .unset, .unset, .unset, .unset, .unset, .unset, .unset, .unset, .unset, .unset] [])) _
    refine XS.iloadN X5.here hx rfl (hb hby at_27) rfl ?_
    show Steps p.tables e below (T5.setTop (mkF m 28 #[.val (.int p1), .val (.int p2), .val (.int p3), .val (.int (1 : Int32)), .val (.ref w4), .unset, .unset, .unset, .unset, .unset, .unset, .unset, .unset, .unset, .unset, .unset] [(.int (1 : Int32))])) _
    refine XS.istore X5.here hx rfl (hb hby at_28) rfl (l' := #[.val (.int p1), .val (.int p2), .val (.int p3), .val (.int (1 : Int32)), .val (.ref w4), .val (.int (1 : Int32)), .unset, .unset, .unset, .unset, .unset, .unset, .unset, .unset, .unset, .unset]) rfl ?_
    show Steps p.tables e below (T5.setTop (mkF m 30 #[.val (.int p1), .val (.int p2), .val (.int p3), .val (.int (1 : Int32)), .val (.ref w4), .val (.int (1 : Int32)), .unset, .unset, .unset, .unset, .unset, .unset, .unset, .unset, .unset, .unset] [])) _
    refine XS.iloadN X5.here hx rfl (hb hby at_30) rfl ?_
    show Steps p.tables e below (T5.setTop (mkF m 31 #[.val (.int p1), .val (.int p2), .val (.int p3), .val (.int (1 : Int32)), .val (.ref w4), .val (.int (1 : Int32)), .unset, .unset, .unset, .unset, .unset, .unset, .unset, .unset, .unset, .unset] [(.int p2)])) _
    jvm_step X5.here [X5.here.top, hx, (hb hby at_31)]
    show Steps p.tables e below (T5.setTop (mkF m 32 #[.val (.int p1), .val (.int p2), .val (.int p3), .val (.int (1 : Int32)), .val (.ref w4), .val (.int (1 : Int32)), .unset, .unset, .unset, .unset, .unset, .unset, .unset, .unset, .unset, .unset] [(.double (FP.i2d p2))])) _
    jvm_step X5.here [X5.here.top, hx, (hb hby at_32)]
    refine ⟨#[.val (.int p1), .val (.int p2), .val (.int p3), .val (.int (1 : Int32)), .val (.ref w4), .val (.int (1 : Int32)), .val (.double (FP.i2d p2)), .second, .unset, .unset, .unset, .unset, .unset, .unset, .unset, .unset], rfl, ?_⟩
    show Steps p.tables e below (T5.setTop (mkF m 34 #[.val (.int p1), .val (.int p2), .val (.int p3), .val (.int (1 : Int32)), .val (.ref w4), .val (.int (1 : Int32)), .val (.double (FP.i2d p2)), .second, .unset, .unset, .unset, .unset, .unset, .unset, .unset, .unset] [])) _
    refine XS.iloadN X5.here hx rfl (hb hby at_34) rfl ?_
    show Steps p.tables e below (T5.setTop (mkF m 35 #[.val (.int p1), .val (.int p2), .val (.int p3), .val (.int (1 : Int32)), .val (.ref w4), .val (.int (1 : Int32)), .val (.double (FP.i2d p2)), .second, .unset, .unset, .unset, .unset, .unset, .unset, .unset, .unset] [(.int p3)])) _
    jvm_step X5.here [X5.here.top, hx, (hb hby at_35)]
    show Steps p.tables e below (T5.setTop (mkF m 36 #[.val (.int p1), .val (.int p2), .val (.int p3), .val (.int (1 : Int32)), .val (.ref w4), .val (.int (1 : Int32)), .val (.double (FP.i2d p2)), .second, .unset, .unset, .unset, .unset, .unset, .unset, .unset, .unset] [(.double (FP.i2d p3))])) _
    jvm_step X5.here [X5.here.top, hx, (hb hby at_36)]
    refine ⟨#[.val (.int p1), .val (.int p2), .val (.int p3), .val (.int (1 : Int32)), .val (.ref w4), .val (.int (1 : Int32)), .val (.double (FP.i2d p2)), .second, .val (.double (FP.i2d p3)), .second, .unset, .unset, .unset, .unset, .unset, .unset], rfl, ?_⟩
    show Steps p.tables e below (T5.setTop (mkF m 38 #[.val (.int p1), .val (.int p2), .val (.int p3), .val (.int (1 : Int32)), .val (.ref w4), .val (.int (1 : Int32)), .val (.double (FP.i2d p2)), .second, .val (.double (FP.i2d p3)), .second, .unset, .unset, .unset, .unset, .unset, .unset] [])) _
    refine XS.aload X5.here hx rfl (hb hby at_38) rfl rfl ?_
    show Steps p.tables e below (T5.setTop (mkF m 40 #[.val (.int p1), .val (.int p2), .val (.int p3), .val (.int (1 : Int32)), .val (.ref w4), .val (.int (1 : Int32)), .val (.double (FP.i2d p2)), .second, .val (.double (FP.i2d p3)), .second, .unset, .unset, .unset, .unset, .unset, .unset] [(.ref w4)])) _
    jvm_step X5.here [X5.here.top, hx, (hb hby at_40)]
    show Steps p.tables e below (T5.setTop (mkF m 42 #[.val (.int p1), .val (.int p2), .val (.int p3), .val (.int (1 : Int32)), .val (.ref w4), .val (.int (1 : Int32)), .val (.double (FP.i2d p2)), .second, .val (.double (FP.i2d p3)), .second, .unset, .unset, .unset, .unset, .unset, .unset] [(.double (FP.i2d p2)), (.ref w4)])) _
    refine st6.trans ?_
    show Steps p.tables e below (T6.setTop (mkF m 45 #[.val (.int p1), .val (.int p2), .val (.int p3), .val (.int (1 : Int32)), .val (.ref w4), .val (.int (1 : Int32)), .val (.double (FP.i2d p2)), .second, .val (.double (FP.i2d p3)), .second, .unset, .unset, .unset, .unset, .unset, .unset] [(.double (FP.i2d p2))])) _
    jvm_step X6.here [X6.here.top, hx, (hb hby at_45)]
    refine ⟨#[.val (.int p1), .val (.int p2), .val (.int p3), .val (.int (1 : Int32)), .val (.ref w4), .val (.int (1 : Int32)), .val (.double (FP.i2d p2)), .second, .val (.double (FP.i2d p3)), .second, .val (.double (FP.i2d p2)), .second, .unset, .unset, .unset, .unset], rfl, ?_⟩
    show Steps p.tables e below (T6.setTop (mkF m 47 #[.val (.int p1), .val (.int p2), .val (.int p3), .val (.int (1 : Int32)), .val (.ref w4), .val (.int (1 : Int32)), .val (.double (FP.i2d p2)), .second, .val (.double (FP.i2d p3)), .second, .val (.double (FP.i2d p2)), .second, .unset, .unset, .unset, .unset] [])) _
    refine XS.aload X6.here hx rfl (hb hby at_47) rfl rfl ?_
    show Steps p.tables e below (T6.setTop (mkF m 49 #[.val (.int p1), .val (.int p2), .val (.int p3), .val (.int (1 : Int32)), .val (.ref w4), .val (.int (1 : Int32)), .val (.double (FP.i2d p2)), .second, .val (.double (FP.i2d p3)), .second, .val (.double (FP.i2d p2)), .second, .unset, .unset, .unset, .unset] [(.ref w4)])) _
    jvm_step X6.here [X6.here.top, hx, (hb hby at_49)]
    show Steps p.tables e below (T6.setTop (mkF m 51 #[.val (.int p1), .val (.int p2), .val (.int p3), .val (.int (1 : Int32)), .val (.ref w4), .val (.int (1 : Int32)), .val (.double (FP.i2d p2)), .second, .val (.double (FP.i2d p3)), .second, .val (.double (FP.i2d p2)), .second, .unset, .unset, .unset, .unset] [(.double (FP.i2d p3)), (.ref w4)])) _
    refine st7.trans ?_
    show Steps p.tables e below (T7.setTop (mkF m 54 #[.val (.int p1), .val (.int p2), .val (.int p3), .val (.int (1 : Int32)), .val (.ref w4), .val (.int (1 : Int32)), .val (.double (FP.i2d p2)), .second, .val (.double (FP.i2d p3)), .second, .val (.double (FP.i2d p2)), .second, .unset, .unset, .unset, .unset] [(.double (FP.i2d p3))])) _
    jvm_step X7.here [X7.here.top, hx, (hb hby at_54)]
    refine ⟨#[.val (.int p1), .val (.int p2), .val (.int p3), .val (.int (1 : Int32)), .val (.ref w4), .val (.int (1 : Int32)), .val (.double (FP.i2d p2)), .second, .val (.double (FP.i2d p3)), .second, .val (.double (FP.i2d p2)), .second, .val (.double (FP.i2d p3)), .second, .unset, .unset], rfl, ?_⟩
    show Steps p.tables e below (T7.setTop (mkF m 56 #[.val (.int p1), .val (.int p2), .val (.int p3), .val (.int (1 : Int32)), .val (.ref w4), .val (.int (1 : Int32)), .val (.double (FP.i2d p2)), .second, .val (.double (FP.i2d p3)), .second, .val (.double (FP.i2d p2)), .second, .val (.double (FP.i2d p3)), .second, .unset, .unset] [])) _
    refine XS.iload X7.here hx rfl (hb hby at_56) rfl ?_
    show Steps p.tables e below (T7.setTop (mkF m 58 #[.val (.int p1), .val (.int p2), .val (.int p3), .val (.int (1 : Int32)), .val (.ref w4), .val (.int (1 : Int32)), .val (.double (FP.i2d p2)), .second, .val (.double (FP.i2d p3)), .second, .val (.double (FP.i2d p2)), .second, .val (.double (FP.i2d p3)), .second, .unset, .unset] [(.int (1 : Int32))])) _
    refine XS.ifNo X7.here hx rfl (hb hby at_58) rfl ((if0 _ _).trans (feq hc58).1) ?_
    show Steps p.tables e below (T7.setTop (mkF m 61 #[.val (.int p1), .val (.int p2), .val (.int p3), .val (.int (1 : Int32)), .val (.ref w4), .val (.int (1 : Int32)), .val (.double (FP.i2d p2)), .second, .val (.double (FP.i2d p3)), .second, .val (.double (FP.i2d p2)), .second, .val (.double (FP.i2d p3)), .second, .unset, .unset] [])) _
    refine XS.iloadN X7.here hx rfl (hb hby at_61) rfl ?_
    show Steps p.tables e below (T7.setTop (mkF m 62 #[.val (.int p1), .val (.int p2), .val (.int p3), .val (.int (1 : Int32)), .val (.ref w4), .val (.int (1 : Int32)), .val (.double (FP.i2d p2)), .second, .val (.double (FP.i2d p3)), .second, .val (.double (FP.i2d p2)), .second, .val (.double (FP.i2d p3)), .second, .unset, .unset] [(.int p2)])) _
    refine XS.iloadN X7.here hx rfl (hb hby at_62) rfl ?_
    show Steps p.tables e below (T7.setTop (mkF m 63 #[.val (.int p1), .val (.int p2), .val (.int p3), .val (.int (1 : Int32)), .val (.ref w4), .val (.int (1 : Int32)), .val (.double (FP.i2d p2)), .second, .val (.double (FP.i2d p3)), .second, .val (.double (FP.i2d p2)), .second, .val (.double (FP.i2d p3)), .second, .unset, .unset] [(.int p3), (.int p2)])) _
    refine XS.icmpYes X7.here hx rfl (pc0 := 63) (pc' := 70) rfl (hb hby at_63) rfl (flt hc63).2.1 (by decide) (by decide) ?_
    show Steps p.tables e below (T7.setTop (mkF m 70 #[.val (.int p1), .val (.int p2), .val (.int p3), .val (.int (1 : Int32)), .val (.ref w4), .val (.int (1 : Int32)), .val (.double (FP.i2d p2)), .second, .val (.double (FP.i2d p3)), .second, .val (.double (FP.i2d p2)), .second, .val (.double (FP.i2d p3)), .second, .unset, .unset] [])) _
    refine XS.iconst X7.here hx rfl (hb hby at_70) ?_
    show Steps p.tables e below (T7.setTop (mkF m 71 #[.val (.int p1), .val (.int p2), .val (.int p3), .val (.int (1 : Int32)), .val (.ref w4), .val (.int (1 : Int32)), .val (.double (FP.i2d p2)), .second, .val (.double (FP.i2d p3)), .second, .val (.double (FP.i2d p2)), .second, .val (.double (FP.i2d p3)), .second, .unset, .unset] [(.int (0 : Int32))])) _
    refine XS.goto X7.here hx rfl (pc0 := 71) (pc' := 84) rfl (hb hby at_71) (by decide) (by decide) ?_
    show Steps p.tables e below (T7.setTop (mkF m 84 #[.val (.int p1), .val (.int p2), .val (.int p3), .val (.int (1 : Int32)), .val (.ref w4), .val (.int (1 : Int32)), .val (.double (FP.i2d p2)), .second, .val (.double (FP.i2d p3)), .second, .val (.double (FP.i2d p2)), .second, .val (.double (FP.i2d p3)), .second, .unset, .unset] [(.int (0 : Int32))])) _
    refine XS.istore X7.here hx rfl (hb hby at_84) rfl (l' := #[.val (.int p1), .val (.int p2), .val (.int p3), .val (.int (1 : Int32)), .val (.ref w4), .val (.int (1 : Int32)), .val (.double (FP.i2d p2)), .second, .val (.double (FP.i2d p3)), .second, .val (.double (FP.i2d p2)), .second, .val (.double (FP.i2d p3)), .second, .val (.int (0 : Int32)), .unset]) rfl ?_
    show Steps p.tables e below (T7.setTop (mkF m 86 #[.val (.int p1), .val (.int p2), .val (.int p3), .val (.int (1 : Int32)), .val (.ref w4), .val (.int (1 : Int32)), .val (.double (FP.i2d p2)), .second, .val (.double (FP.i2d p3)), .second, .val (.double (FP.i2d p2)), .second, .val (.double (FP.i2d p3)), .second, .val (.int (0 : Int32)), .unset] [])) _
    refine XS.iload X7.here hx rfl (hb hby at_86) rfl ?_
    show Steps p.tables e below (T7.setTop (mkF m 88 #[.val (.int p1), .val (.int p2), .val (.int p3), .val (.int (1 : Int32)), .val (.ref w4), .val (.int (1 : Int32)), .val (.double (FP.i2d p2)), .second, .val (.double (FP.i2d p3)), .second, .val (.double (FP.i2d p2)), .second, .val (.double (FP.i2d p3)), .second, .val (.int (0 : Int32)), .unset] [(.int (1 : Int32))])) _
    refine XS.ifNo X7.here hx rfl (hb hby at_88) rfl ((if0 _ _).trans (feq hc88).1) ?_
    show Steps p.tables e below (T7.setTop (mkF m 91 #[.val (.int p1), .val (.int p2), .val (.int p3), .val (.int (1 : Int32)), .val (.ref w4), .val (.int (1 : Int32)), .val (.double (FP.i2d p2)), .second, .val (.double (FP.i2d p3)), .second, .val (.double (FP.i2d p2)), .second, .val (.double (FP.i2d p3)), .second, .val (.int (0 : Int32)), .unset] [])) _
    refine XS.iloadN X7.here hx rfl (hb hby at_91) rfl ?_
    show Steps p.tables e below (T7.setTop (mkF m 92 #[.val (.int p1), .val (.int p2), .val (.int p3), .val (.int (1 : Int32)), .val (.ref w4), .val (.int (1 : Int32)), .val (.double (FP.i2d p2)), .second, .val (.double (FP.i2d p3)), .second, .val (.double (FP.i2d p2)), .second, .val (.double (FP.i2d p3)), .second, .val (.int (0 : Int32)), .unset] [(.int p3)])) _
    refine XS.iloadN X7.here hx rfl (hb hby at_92) rfl ?_
    show Steps p.tables e below (T7.setTop (mkF m 93 #[.val (.int p1), .val (.int p2), .val (.int p3), .val (.int (1 : Int32)), .val (.ref w4), .val (.int (1 : Int32)), .val (.double (FP.i2d p2)), .second, .val (.double (FP.i2d p3)), .second, .val (.double (FP.i2d p2)), .second, .val (.double (FP.i2d p3)), .second, .val (.int (0 : Int32)), .unset] [(.int p2), (.int p3)])) _
    refine XS.icmpNo X7.here hx rfl (hb hby at_93) rfl (tlt hc93).2.1 ?_
    show Steps p.tables e below (T7.setTop (mkF m 96 #[.val (.int p1), .val (.int p2), .val (.int p3), .val (.int (1 : Int32)), .val (.ref w4), .val (.int (1 : Int32)), .val (.double (FP.i2d p2)), .second, .val (.double (FP.i2d p3)), .second, .val (.double (FP.i2d p2)), .second, .val (.double (FP.i2d p3)), .second, .val (.int (0 : Int32)), .unset] [])) _
    refine XS.iconst X7.here hx rfl (hb hby at_96) ?_
    show Steps p.tables e below (T7.setTop (mkF m 97 #[.val (.int p1), .val (.int p2), .val (.int p3), .val (.int (1 : Int32)), .val (.ref w4), .val (.int (1 : Int32)), .val (.double (FP.i2d p2)), .second, .val (.double (FP.i2d p3)), .second, .val (.double (FP.i2d p2)), .second, .val (.double (FP.i2d p3)), .second, .val (.int (0 : Int32)), .unset] [(.int (1 : Int32))])) _
    refine XS.goto X7.here hx rfl (pc0 := 97) (pc' := 114) rfl (hb hby at_97) (by decide) (by decide) ?_
    show Steps p.tables e below (T7.setTop (mkF m 114 #[.val (.int p1), .val (.int p2), .val (.int p3), .val (.int (1 : Int32)), .val (.ref w4), .val (.int (1 : Int32)), .val (.double (FP.i2d p2)), .second, .val (.double (FP.i2d p3)), .second, .val (.double (FP.i2d p2)), .second, .val (.double (FP.i2d p3)), .second, .val (.int (0 : Int32)), .unset] [(.int (1 : Int32))])) _
    refine XS.istore X7.here hx rfl (hb hby at_114) rfl (l' := #[.val (.int p1), .val (.int p2), .val (.int p3), .val (.int (1 : Int32)), .val (.ref w4), .val (.int (1 : Int32)), .val (.double (FP.i2d p2)), .second, .val (.double (FP.i2d p3)), .second, .val (.double (FP.i2d p2)), .second, .val (.double (FP.i2d p3)), .second, .val (.int (0 : Int32)), .val (.int (1 : Int32))]) rfl ?_
    show Steps p.tables e below (T7.setTop (mkF m 116 #[.val (.int p1), .val (.int p2), .val (.int p3), .val (.int (1 : Int32)), .val (.ref w4), .val (.int (1 : Int32)), .val (.double (FP.i2d p2)), .second, .val (.double (FP.i2d p3)), .second, .val (.double (FP.i2d p2)), .second, .val (.double (FP.i2d p3)), .second, .val (.int (0 : Int32)), .val (.int (1 : Int32))] [])) _
    jvm_step X7.here [X7.here.top, hx, (hb hby at_116)]
    show Steps p.tables e below (T7.setTop (mkF m 118 #[.val (.int p1), .val (.int p2), .val (.int p3), .val (.int (1 : Int32)), .val (.ref w4), .val (.int (1 : Int32)), .val (.double (FP.i2d p2)), .second, .val (.double (FP.i2d p3)), .second, .val (.double (FP.i2d p2)), .second, .val (.double (FP.i2d p3)), .second, .val (.int (0 : Int32)), .val (.int (1 : Int32))] [(.double (FP.i2d p2))])) _
    jvm_step X7.here [X7.here.top, hx, (hb hby at_118)]
    show Steps p.tables e below (T7.setTop (mkF m 120 #[.val (.int p1), .val (.int p2), .val (.int p3), .val (.int (1 : Int32)), .val (.ref w4), .val (.int (1 : Int32)), .val (.double (FP.i2d p2)), .second, .val (.double (FP.i2d p3)), .second, .val (.double (FP.i2d p2)), .second, .val (.double (FP.i2d p3)), .second, .val (.int (0 : Int32)), .val (.int (1 : Int32))] [(.double (FP.i2d p3)), (.double (FP.i2d p2))])) _
    jvm_step X7.here [X7.here.top, hx, (hb hby at_120)]
    show Steps p.tables e below (T7.setTop (mkF m 121 #[.val (.int p1), .val (.int p2), .val (.int p3), .val (.int (1 : Int32)), .val (.ref w4), .val (.int (1 : Int32)), .val (.double (FP.i2d p2)), .second, .val (.double (FP.i2d p3)), .second, .val (.double (FP.i2d p2)), .second, .val (.double (FP.i2d p3)), .second, .val (.int (0 : Int32)), .val (.int (1 : Int32))] [(.int (cmpValue (FP.dcmp (FP.i2d p2) (FP.i2d p3)) .g))])) _
    refine XS.ifYes X7.here hx rfl (pc0 := 121) (pc' := 128) rfl (hb hby at_121) rfl ((if0 _ _).trans (flt ((by rw [own_gt (own_di p2) (own_di p3) (by have := hc93; rw [Int32.lt_iff_toInt_lt] at this; omega)]; decide) : ¬ ((cmpValue (FP.dcmp (FP.i2d p2) (FP.i2d p3)) .g) < (0 : Int32)))).2.1) (by decide) (by decide) ?_
    show Steps p.tables e below (T7.setTop (mkF m 128 #[.val (.int p1), .val (.int p2), .val (.int p3), .val (.int (1 : Int32)), .val (.ref w4), .val (.int (1 : Int32)), .val (.double (FP.i2d p2)), .second, .val (.double (FP.i2d p3)), .second, .val (.double (FP.i2d p2)), .second, .val (.double (FP.i2d p3)), .second, .val (.int (0 : Int32)), .val (.int (1 : Int32))] [])) _
    refine XS.iconst X7.here hx rfl (hb hby at_128) ?_
    show Steps p.tables e below (T7.setTop (mkF m 129 #[.val (.int p1), .val (.int p2), .val (.int p3), .val (.int (1 : Int32)), .val (.ref w4), .val (.int (1 : Int32)), .val (.double (FP.i2d p2)), .second, .val (.double (FP.i2d p3)), .second, .val (.double (FP.i2d p2)), .second, .val (.double (FP.i2d p3)), .second, .val (.int (0 : Int32)), .val (.int (1 : Int32))] [(.int (0 : Int32))])) _
    refine XS.iload X7.here hx rfl (hb hby at_129) rfl ?_
    show Steps p.tables e below (T7.setTop (mkF m 131 #[.val (.int p1), .val (.int p2), .val (.int p3), .val (.int (1 : Int32)), .val (.ref w4), .val (.int (1 : Int32)), .val (.double (FP.i2d p2)), .second, .val (.double (FP.i2d p3)), .second, .val (.double (FP.i2d p2)), .second, .val (.double (FP.i2d p3)), .second, .val (.int (0 : Int32)), .val (.int (1 : Int32))] [(.int (0 : Int32)), (.int (0 : Int32))])) _
    refine XS.icmpNo X7.here hx rfl (hb hby at_131) rfl (teq (rfl : (0 : Int32) = (0 : Int32))).2 ?_
    show Steps p.tables e below (T7.setTop (mkF m 134 #[.val (.int p1), .val (.int p2), .val (.int p3), .val (.int (1 : Int32)), .val (.ref w4), .val (.int (1 : Int32)), .val (.double (FP.i2d p2)), .second, .val (.double (FP.i2d p3)), .second, .val (.double (FP.i2d p2)), .second, .val (.double (FP.i2d p3)), .second, .val (.int (0 : Int32)), .val (.int (1 : Int32))] [])) _
    jvm_step X7.here [X7.here.top, hx, (hb hby at_134)]
    show Steps p.tables e below (T7.setTop (mkF m 136 #[.val (.int p1), .val (.int p2), .val (.int p3), .val (.int (1 : Int32)), .val (.ref w4), .val (.int (1 : Int32)), .val (.double (FP.i2d p2)), .second, .val (.double (FP.i2d p3)), .second, .val (.double (FP.i2d p2)), .second, .val (.double (FP.i2d p3)), .second, .val (.int (0 : Int32)), .val (.int (1 : Int32))] [(.double (FP.i2d p3))])) _
    jvm_step X7.here [X7.here.top, hx, (hb hby at_136)]
    show Steps p.tables e below (T7.setTop (mkF m 138 #[.val (.int p1), .val (.int p2), .val (.int p3), .val (.int (1 : Int32)), .val (.ref w4), .val (.int (1 : Int32)), .val (.double (FP.i2d p2)), .second, .val (.double (FP.i2d p3)), .second, .val (.double (FP.i2d p2)), .second, .val (.double (FP.i2d p3)), .second, .val (.int (0 : Int32)), .val (.int (1 : Int32))] [(.double (FP.i2d p2)), (.double (FP.i2d p3))])) _
    jvm_step X7.here [X7.here.top, hx, (hb hby at_138)]
    show Steps p.tables e below (T7.setTop (mkF m 139 #[.val (.int p1), .val (.int p2), .val (.int p3), .val (.int (1 : Int32)), .val (.ref w4), .val (.int (1 : Int32)), .val (.double (FP.i2d p2)), .second, .val (.double (FP.i2d p3)), .second, .val (.double (FP.i2d p2)), .second, .val (.double (FP.i2d p3)), .second, .val (.int (0 : Int32)), .val (.int (1 : Int32))] [(.int (cmpValue (FP.dcmp (FP.i2d p3) (FP.i2d p2)) .g))])) _
    refine XS.ifNo X7.here hx rfl (hb hby at_139) rfl ((if0 _ _).trans (tlt ((by rw [own_lt (own_di p3) (own_di p2) (by have := hc93; rw [Int32.lt_iff_toInt_lt] at this; omega)]; decide) : (cmpValue (FP.dcmp (FP.i2d p3) (FP.i2d p2)) .g) < (0 : Int32))).2.1) ?_
    show Steps p.tables e below (T7.setTop (mkF m 142 #[.val (.int p1), .val (.int p2), .val (.int p3), .val (.int (1 : Int32)), .val (.ref w4), .val (.int (1 : Int32)), .val (.double (FP.i2d p2)), .second, .val (.double (FP.i2d p3)), .second, .val (.double (FP.i2d p2)), .second, .val (.double (FP.i2d p3)), .second, .val (.int (0 : Int32)), .val (.int (1 : Int32))] [])) _
    refine XS.iconst X7.here hx rfl (hb hby at_142) ?_
    show Steps p.tables e below (T7.setTop (mkF m 143 #[.val (.int p1), .val (.int p2), .val (.int p3), .val (.int (1 : Int32)), .val (.ref w4), .val (.int (1 : Int32)), .val (.double (FP.i2d p2)), .second, .val (.double (FP.i2d p3)), .second, .val (.double (FP.i2d p2)), .second, .val (.double (FP.i2d p3)), .second, .val (.int (0 : Int32)), .val (.int (1 : Int32))] [(.int (1 : Int32))])) _
    refine XS.goto X7.here hx rfl (pc0 := 143) (pc' := 147) rfl (hb hby at_143) (by decide) (by decide) ?_
    show Steps p.tables e below (T7.setTop (mkF m 147 #[.val (.int p1), .val (.int p2), .val (.int p3), .val (.int (1 : Int32)), .val (.ref w4), .val (.int (1 : Int32)), .val (.double (FP.i2d p2)), .second, .val (.double (FP.i2d p3)), .second, .val (.double (FP.i2d p2)), .second, .val (.double (FP.i2d p3)), .second, .val (.int (0 : Int32)), .val (.int (1 : Int32))] [(.int (1 : Int32))])) _
    refine XS.iload X7.here hx rfl (hb hby at_147) rfl ?_
    show Steps p.tables e below (T7.setTop (mkF m 149 #[.val (.int p1), .val (.int p2), .val (.int p3), .val (.int (1 : Int32)), .val (.ref w4), .val (.int (1 : Int32)), .val (.double (FP.i2d p2)), .second, .val (.double (FP.i2d p3)), .second, .val (.double (FP.i2d p2)), .second, .val (.double (FP.i2d p3)), .second, .val (.int (0 : Int32)), .val (.int (1 : Int32))] [(.int (1 : Int32)), (.int (1 : Int32))])) _
    refine XS.icmpNo X7.here hx rfl (hb hby at_149) rfl (teq (rfl : (1 : Int32) = (1 : Int32))).2 ?_
    show Steps p.tables e below (T7.setTop (mkF m 152 #[.val (.int p1), .val (.int p2), .val (.int p3), .val (.int (1 : Int32)), .val (.ref w4), .val (.int (1 : Int32)), .val (.double (FP.i2d p2)), .second, .val (.double (FP.i2d p3)), .second, .val (.double (FP.i2d p2)), .second, .val (.double (FP.i2d p3)), .second, .val (.int (0 : Int32)), .val (.int (1 : Int32))] [])) _
    jvm_step X7.here [X7.here.top, hx, (hb hby at_152)]
    show Steps p.tables e below (T7.setTop (mkF m 154 #[.val (.int p1), .val (.int p2), .val (.int p3), .val (.int (1 : Int32)), .val (.ref w4), .val (.int (1 : Int32)), .val (.double (FP.i2d p2)), .second, .val (.double (FP.i2d p3)), .second, .val (.double (FP.i2d p2)), .second, .val (.double (FP.i2d p3)), .second, .val (.int (0 : Int32)), .val (.int (1 : Int32))] [(.double (FP.i2d p2))])) _
    jvm_step X7.here [X7.here.top, hx, (hb hby at_154)]
    show Steps p.tables e below (T7.setTop (mkF m 156 #[.val (.int p1), .val (.int p2), .val (.int p3), .val (.int (1 : Int32)), .val (.ref w4), .val (.int (1 : Int32)), .val (.double (FP.i2d p2)), .second, .val (.double (FP.i2d p3)), .second, .val (.double (FP.i2d p2)), .second, .val (.double (FP.i2d p3)), .second, .val (.int (0 : Int32)), .val (.int (1 : Int32))] [(.double (FP.i2d p3)), (.double (FP.i2d p2))])) _
    jvm_step X7.here [X7.here.top, hx, (hb hby at_156)]
    show Steps p.tables e below (T7.setTop (mkF m 157 #[.val (.int p1), .val (.int p2), .val (.int p3), .val (.int (1 : Int32)), .val (.ref w4), .val (.int (1 : Int32)), .val (.double (FP.i2d p2)), .second, .val (.double (FP.i2d p3)), .second, .val (.double (FP.i2d p2)), .second, .val (.double (FP.i2d p3)), .second, .val (.int (0 : Int32)), .val (.int (1 : Int32))] [(.int (cmpValue (FP.dcmp (FP.i2d p2) (FP.i2d p3)) .l))])) _
    refine XS.ifYes X7.here hx rfl (pc0 := 157) (pc' := 164) rfl (hb hby at_157) rfl ((if0 _ _).trans (feq ((by rw [own_gt (own_di p2) (own_di p3) (by have := hc93; rw [Int32.lt_iff_toInt_lt] at this; omega)]; decide) : ¬ ((cmpValue (FP.dcmp (FP.i2d p2) (FP.i2d p3)) .l) = (0 : Int32)))).2) (by decide) (by decide) ?_
    show Steps p.tables e below (T7.setTop (mkF m 164 #[.val (.int p1), .val (.int p2), .val (.int p3), .val (.int (1 : Int32)), .val (.ref w4), .val (.int (1 : Int32)), .val (.double (FP.i2d p2)), .second, .val (.double (FP.i2d p3)), .second, .val (.double (FP.i2d p2)), .second, .val (.double (FP.i2d p3)), .second, .val (.int (0 : Int32)), .val (.int (1 : Int32))] [])) _
    refine XS.iconst X7.here hx rfl (hb hby at_164) ?_
    show Steps p.tables e below (T7.setTop (mkF m 165 #[.val (.int p1), .val (.int p2), .val (.int p3), .val (.int (1 : Int32)), .val (.ref w4), .val (.int (1 : Int32)), .val (.double (FP.i2d p2)), .second, .val (.double (FP.i2d p3)), .second, .val (.double (FP.i2d p2)), .second, .val (.double (FP.i2d p3)), .second, .val (.int (0 : Int32)), .val (.int (1 : Int32))] [(.int (0 : Int32))])) _
    refine XS.iloadN X7.here hx rfl (hb hby at_165) rfl ?_
    show Steps p.tables e below (T7.setTop (mkF m 166 #[.val (.int p1), .val (.int p2), .val (.int p3), .val (.int (1 : Int32)), .val (.ref w4), .val (.int (1 : Int32)), .val (.double (FP.i2d p2)), .second, .val (.double (FP.i2d p3)), .second, .val (.double (FP.i2d p2)), .second, .val (.double (FP.i2d p3)), .second, .val (.int (0 : Int32)), .val (.int (1 : Int32))] [(.int p2), (.int (0 : Int32))])) _
    refine XS.iloadN X7.here hx rfl (hb hby at_166) rfl ?_
    show Steps p.tables e below (T7.setTop (mkF m 167 #[.val (.int p1), .val (.int p2), .val (.int p3), .val (.int (1 : Int32)), .val (.ref w4), .val (.int (1 : Int32)), .val (.double (FP.i2d p2)), .second, .val (.double (FP.i2d p3)), .second, .val (.double (FP.i2d p2)), .second, .val (.double (FP.i2d p3)), .second, .val (.int (0 : Int32)), .val (.int (1 : Int32))] [(.int p3), (.int p2), (.int (0 : Int32))])) _
    refine XS.icmpYes X7.here hx rfl (pc0 := 167) (pc' := 174) rfl (hb hby at_167) rfl (feq hc167).2 (by decide) (by decide) ?_
    show Steps p.tables e below (T7.setTop (mkF m 174 #[.val (.int p1), .val (.int p2), .val (.int p3), .val (.int (1 : Int32)), .val (.ref w4), .val (.int (1 : Int32)), .val (.double (FP.i2d p2)), .second, .val (.double (FP.i2d p3)), .second, .val (.double (FP.i2d p2)), .second, .val (.double (FP.i2d p3)), .second, .val (.int (0 : Int32)), .val (.int (1 : Int32))] [(.int (0 : Int32))])) _
    refine XS.iconst X7.here hx rfl (hb hby at_174) ?_
    show Steps p.tables e below (T7.setTop (mkF m 175 #[.val (.int p1), .val (.int p2), .val (.int p3), .val (.int (1 : Int32)), .val (.ref w4), .val (.int (1 : Int32)), .val (.double (FP.i2d p2)), .second, .val (.double (FP.i2d p3)), .second, .val (.double (FP.i2d p2)), .second, .val (.double (FP.i2d p3)), .second, .val (.int (0 : Int32)), .val (.int (1 : Int32))] [(.int (0 : Int32)), (.int (0 : Int32))])) _
    refine XS.icmpNo X7.here hx rfl (hb hby at_175) rfl (teq (rfl : (0 : Int32) = (0 : Int32))).2 ?_
    show Steps p.tables e below (T7.setTop (mkF m 178 #[.val (.int p1), .val (.int p2), .val (.int p3), .val (.int (1 : Int32)), .val (.ref w4), .val (.int (1 : Int32)), .val (.double (FP.i2d p2)), .second, .val (.double (FP.i2d p3)), .second, .val (.double (FP.i2d p2)), .second, .val (.double (FP.i2d p3)), .second, .val (.int (0 : Int32)), .val (.int (1 : Int32))] [])) _
    refine XS.iconst X7.here hx rfl (hb hby at_178) ?_
    show Steps p.tables e below (T7.setTop (mkF m 179 #[.val (.int p1), .val (.int p2), .val (.int p3), .val (.int (1 : Int32)), .val (.ref w4), .val (.int (1 : Int32)), .val (.double (FP.i2d p2)), .second, .val (.double (FP.i2d p3)), .second, .val (.double (FP.i2d p2)), .second, .val (.double (FP.i2d p3)), .second, .val (.int (0 : Int32)), .val (.int (1 : Int32))] [(.int (1 : Int32))])) _
    refine XS.goto X7.here hx rfl (pc0 := 179) (pc' := 183) rfl (hb hby at_179) (by decide) (by decide) ?_
    show Steps p.tables e below (T7.setTop (mkF m 183 #[.val (.int p1), .val (.int p2), .val (.int p3), .val (.int (1 : Int32)), .val (.ref w4), .val (.int (1 : Int32)), .val (.double (FP.i2d p2)), .second, .val (.double (FP.i2d p3)), .second, .val (.double (FP.i2d p2)), .second, .val (.double (FP.i2d p3)), .second, .val (.int (0 : Int32)), .val (.int (1 : Int32))] [(.int (1 : Int32))])) _
    exact retN X7 hx (t := .boolean) Bd.returns (by simp) (hb hby at_183) hr
  · show Q0b Z p1 p2 p3 w4 h0 n0 _ T7.heap _
    exact ⟨rfl, N7⟩
def Q0c (Z : State) (p1 : Int32) (p2 : Int32) (p3 : Int32) (w4 : Addr) (h0 : Heap) (n0 : Nat) (v : Option Value) (h : Heap) (L : List Loc) : Prop := v = some (.int (1 : Int32)) ∧ Fr n0 L
set_option maxRecDepth 65536 in
set_option maxHeartbeats 40000000 in
theorem rm0c (l : Launch) (Z : State) (a0 : Array Value) (hw : ∀ d ∈ tables_1, d.before a0 Z = true) (ws : List Jvm.Cond) (p1 : Int32) (p2 : Int32) (p3 : Int32) (w4 : Addr) (h0 : Heap) (n0 : Nat) (Z0 : n0 ≤ h0.size) (S_NIDF : Sta Z h0 "com/example/upweight/upweight/Specificity" "NIDF" "Lcom/example/upweight/upweight/Specificity;" (.ref w4)) (E_w4 : Exa Z h0 w4 "com/example/upweight/upweight/Specificity$2") (FH : Fld Z h0 w4 "com/example/upweight/upweight/Specificity" "higherIsMoreSpecific" "Z" (.int 1)) (hc3 : ¬ ((p1 &&& (1 : Int32)) = (0 : Int32))) (hc13 : ¬ ((1 : Int32) = (0 : Int32))) (hc58 : ¬ ((1 : Int32) = (0 : Int32))) (hc63 : ¬ (p2 < p3)) (hc88 : ¬ ((1 : Int32) = (0 : Int32))) (hc93 : ¬ (p3 < p2)) (hc167 : p2 = p3) :
    MetFree l x (head1 (Jvm.Cond.code x code maxLocals ret :: ws) room_1) (fun a U => a = #[(.int p1), (.int p2), (.int p3)] ∧ Z.Warmed39 U.vm ∧ U.heap = h0) (fun _ _ _ _ _ => True) (fun _ U o U' => ∃ v L, o = .returned v ∧ Q0c Z p1 p2 p3 w4 h0 n0 v U'.heap L ∧ FrameEnd U o U' L room_1.cells room_1.slots) := by
  refine MetFree.of_bodySF (plainFor_of_name pn_0) hisR ?_
  intro p e s m args below meth c s₁ Bd hml0 hP hK
  obtain ⟨rfl, hZ, hh⟩ := hP
  have hx := Bd.exec
  have hby := Bd.bytes
  have hml : c.maxLocals = 16 := hml0
  have hown : s.vm.findClass "com/example/upweight/upweight/SpecificityLeastSpecificFirstKeyPinLaw" = some m.cls := findClass_of_methodNamed Bd.named
  have hnm := (name_of_methodNamed Bd.named Bd.method).1
  have X0 : Stand p l e room_1 s m #[(.int p1), (.int p2), (.int p3)] below meth c s₁ [] 0 0 := Stand.of_body Bd
  have e0 : s₁.heap = h0 := by rw [← hh, Bd.state]; rfl
  have N0 := Fr.nil n0
  have pre0 : ∀ t, Steps p.tables e below (s₁.setTop (mkF m 0 #[.val (.int p1), .val (.int p2), .val (.int p3), .unset, .unset, .unset, .unset, .unset, .unset, .unset, .unset, .unset, .unset, .unset, .unset, .unset] [])) t → Steps p.tables e below (s₁.setTop (entryFrame m #[(.int p1), (.int p2), (.int p3)] maxLocals)) t := fun t k => castTop (ef_0 m p1 p2 p3) k
  obtain ⟨T5, X5, e5, st5⟩ := getS2 X0 hx hZ hown (host := "") (Or.inl (hw _ (List.mem_of_getElem? (i := 10) rfl))) Via.refl e0 S_NIDF (g := (mkF m 16 #[.val (.int p1), .val (.int p2), .val (.int p3), .val (.int (1 : Int32)), .unset, .unset, .unset, .unset, .unset, .unset, .unset, .unset, .unset, .unset, .unset, .unset] [])) rfl (hb hby at_16)
  obtain ⟨cq6, kq6, q6a, q6b, q6c⟩ := isOf hZ e5 E_w4
  obtain ⟨_, _, ⟨T6, L6, k6, n6⟩, -, X6, ⟨Lc6, hQ6, l6, y6, z6⟩, st6⟩ := X5.virtualBack hx (y := (⟨"com/example/upweight/upweight/Specificity", "leastSpecificFirstKey", "(D)D"⟩ : MethodName)) (z := (⟨"com/example/upweight/upweight/Specificity", "leastSpecificFirstKey", "(D)D"⟩ : MethodName)) hown (mvT hZ (hw _ (List.mem_of_getElem? (i := 3) rfl))) (mvT hZ (hw _ (List.mem_of_getElem? (i := 4) rfl))) (notFace_of_selects (args := #[]) (mvT hZ (hw _ (List.mem_of_getElem? (i := 12) rfl)))) (mvT hZ (hw _ (List.mem_of_getElem? (i := 12) rfl))) (mvT hZ (hw _ (List.mem_of_getElem? (i := 5) rfl))) (by decide) (backOf (W := 0) (rm1f l Z a0 hw [] w4 (FP.i2d p2) 1 h0 n0 Z0 FH (by decide)) hZ (hw _ (List.mem_of_getElem? (i := 7) rfl)) (hw _ (List.mem_of_getElem? (i := 1) rfl)) (by decide) (by decide)) q6a q6c (g := (mkF m 42 #[.val (.int p1), .val (.int p2), .val (.int p3), .val (.int (1 : Int32)), .val (.ref w4), .val (.int (1 : Int32)), .val (.double (FP.i2d p2)), .second, .val (.double (FP.i2d p3)), .second, .unset, .unset, .unset, .unset, .unset, .unset] [(.double (FP.i2d p2)), (.ref w4)])) rfl (by rw [hml]; rfl) (Steps.refl _) (argsL := [(.double (FP.i2d p2))]) (rest := []) (lenOf pd_0_0 rfl) rfl (by show 2 * 0 + _ ≤ _; exact Nat.le_of_eq rfl) (hb hby at_42) (fun _ _ => ⟨rfl, e5, (by decide : 0 + 0 ≤ _), (by decide : 0 + 0 ≤ _)⟩)
  dsimp only [Pt.U, Pt.locs, Pt.cells, Pt.slots] at X6 l6 y6 z6 st6 hQ6
  subst l6 y6 z6
  obtain ⟨rfl, N6q, q6⟩ := hQ6
  have K6 : Keep h0 T6.heap [] := by rw [q6]; exact Keep.refl _ _
  have N6 := Fr.app N0 N6q
  obtain ⟨cq7, kq7, q7a, q7b, q7c⟩ := isOf hZ rfl (E_w4.keep K6)
  obtain ⟨_, _, ⟨T7, L7, k7, n7⟩, -, X7, ⟨Lc7, hQ7, l7, y7, z7⟩, st7⟩ := X6.virtualBack hx (y := (⟨"com/example/upweight/upweight/Specificity", "leastSpecificFirstKey", "(D)D"⟩ : MethodName)) (z := (⟨"com/example/upweight/upweight/Specificity", "leastSpecificFirstKey", "(D)D"⟩ : MethodName)) hown (mvT hZ (hw _ (List.mem_of_getElem? (i := 3) rfl))) (mvT hZ (hw _ (List.mem_of_getElem? (i := 4) rfl))) (notFace_of_selects (args := #[]) (mvT hZ (hw _ (List.mem_of_getElem? (i := 12) rfl)))) (mvT hZ (hw _ (List.mem_of_getElem? (i := 12) rfl))) (mvT hZ (hw _ (List.mem_of_getElem? (i := 5) rfl))) (by decide) (backOf (W := 0) (rm1f l Z a0 hw [] w4 (FP.i2d p3) 1 T6.heap n0 (by rw [q6]; exact Z0) (by rw [q6]; exact FH) (by decide)) hZ (hw _ (List.mem_of_getElem? (i := 7) rfl)) (hw _ (List.mem_of_getElem? (i := 1) rfl)) (by decide) (by decide)) q7a q7c (g := (mkF m 51 #[.val (.int p1), .val (.int p2), .val (.int p3), .val (.int (1 : Int32)), .val (.ref w4), .val (.int (1 : Int32)), .val (.double (FP.i2d p2)), .second, .val (.double (FP.i2d p3)), .second, .val (.double (FP.i2d p2)), .second, .unset, .unset, .unset, .unset] [(.double (FP.i2d p3)), (.ref w4)])) rfl (by rw [hml]; rfl) (Steps.refl _) (argsL := [(.double (FP.i2d p3))]) (rest := []) (lenOf pd_0_0 rfl) rfl (by show 2 * 0 + _ ≤ _; exact Nat.le_of_eq rfl) (hb hby at_51) (fun _ _ => ⟨rfl, rfl, (by decide : 0 + 0 ≤ _), (by decide : 0 + 0 ≤ _)⟩)
  dsimp only [Pt.U, Pt.locs, Pt.cells, Pt.slots] at X7 l7 y7 z7 st7 hQ7
  subst l7 y7 z7
  obtain ⟨rfl, N7q, q7⟩ := hQ7
  have N7 := Fr.app N6 N7q
  obtain ⟨fs, hr, hrun, hended, hW, hsame⟩ := X7.leave (v := some (.int (1 : Int32))) (fun h => by rw [Bd.returns] at h; cases h)
  refine ⟨_, _, pre0 _ ?_, hrun, hended, _, _, rfl, ?_, ⟨_, rfl⟩, hW, hsame.mono (by decide) (by decide)⟩
  · show Steps p.tables e below (s₁.setTop (mkF m 0 #[.val (.int p1), .val (.int p2), .val (.int p3), .unset, .unset, .unset, .unset, .unset, .unset, .unset, .unset, .unset, .unset, .unset, .unset, .unset] [])) _
    refine XS.iloadN X0.here hx rfl (hb hby at_0) rfl ?_
    show Steps p.tables e below (s₁.setTop (mkF m 1 #[.val (.int p1), .val (.int p2), .val (.int p3), .unset, .unset, .unset, .unset, .unset, .unset, .unset, .unset, .unset, .unset, .unset, .unset, .unset] [(.int p1)])) _
    refine XS.iconst X0.here hx rfl (hb hby at_1) ?_
    show Steps p.tables e below (s₁.setTop (mkF m 2 #[.val (.int p1), .val (.int p2), .val (.int p3), .unset, .unset, .unset, .unset, .unset, .unset, .unset, .unset, .unset, .unset, .unset, .unset, .unset] [(.int (1 : Int32)), (.int p1)])) _
    refine XS.iand X0.here hx rfl (hb hby at_2) rfl ?_
    show Steps p.tables e below (s₁.setTop (mkF m 3 #[.val (.int p1), .val (.int p2), .val (.int p3), .unset, .unset, .unset, .unset, .unset, .unset, .unset, .unset, .unset, .unset, .unset, .unset, .unset] [(.int (p1 &&& (1 : Int32)))])) _
    refine XS.ifNo X0.here hx rfl (hb hby at_3) rfl ((if0 _ _).trans (feq hc3).1) ?_
    show Steps p.tables e below (s₁.setTop (mkF m 6 #[.val (.int p1), .val (.int p2), .val (.int p3), .unset, .unset, .unset, .unset, .unset, .unset, .unset, .unset, .unset, .unset, .unset, .unset, .unset] [])) _
    refine XS.iconst X0.here hx rfl (hb hby at_6) ?_
    show Steps p.tables e below (s₁.setTop (mkF m 7 #[.val (.int p1), .val (.int p2), .val (.int p3), .unset, .unset, .unset, .unset, .unset, .unset, .unset, .unset, .unset, .unset, .unset, .unset, .unset] [(.int (1 : Int32))])) _
    refine XS.goto X0.here hx rfl (pc0 := 7) (pc' := 11) rfl (hb hby at_7) (by decide) (by decide) ?_
    show Steps p.tables e below (s₁.setTop (mkF m 11 #[.val (.int p1), .val (.int p2), .val (.int p3), .unset, .unset, .unset, .unset, .unset, .unset, .unset, .unset, .unset, .unset, .unset, .unset, .unset] [(.int (1 : Int32))])) _
    refine XS.istoreN X0.here hx rfl (hb hby at_11) rfl (l' := #[.val (.int p1), .val (.int p2), .val (.int p3), .val (.int (1 : Int32)), .unset, .unset, .unset, .unset, .unset, .unset, .unset, .unset, .unset, .unset, .unset, .unset]) rfl ?_
    show Steps p.tables e below (s₁.setTop (mkF m 12 #[.val (.int p1), .val (.int p2), .val (.int p3), .val (.int (1 : Int32)), .unset, .unset, .unset, .unset, .unset, .unset, .unset, .unset, .unset, .unset, .unset, .unset] [])) _
    refine XS.iloadN X0.here hx rfl (hb hby at_12) rfl ?_
    show Steps p.tables e below (s₁.setTop (mkF m 13 #[.val (.int p1), .val (.int p2), .val (.int p3), .val (.int (1 : Int32)), .unset, .unset, .unset, .unset, .unset, .unset, .unset, .unset, .unset, .unset, .unset, .unset] [(.int (1 : Int32))])) _
    refine XS.ifNo X0.here hx rfl (hb hby at_13) rfl ((if0 _ _).trans (feq hc13).1) ?_
    show Steps p.tables e below (s₁.setTop (mkF m 16 #[.val (.int p1), .val (.int p2), .val (.int p3), .val (.int (1 : Int32)), .unset, .unset, .unset, .unset, .unset, .unset, .unset, .unset, .unset, .unset, .unset, .unset] [])) _
    refine st5 _ ?_
    show Steps p.tables e below (T5.setTop (mkF m 19 #[.val (.int p1), .val (.int p2), .val (.int p3), .val (.int (1 : Int32)), .unset, .unset, .unset, .unset, .unset, .unset, .unset, .unset, .unset, .unset, .unset, .unset] [(.ref w4)])) _
    refine XS.goto X5.here hx rfl (pc0 := 19) (pc' := 25) rfl (hb hby at_19) (by decide) (by decide) ?_
    show Steps p.tables e below (T5.setTop (mkF m 25 #[.val (.int p1), .val (.int p2), .val (.int p3), .val (.int (1 : Int32)), .unset, .unset, .unset, .unset, .unset, .unset, .unset, .unset, .unset, .unset, .unset, .unset] [(.ref w4)])) _
    refine XS.astore X5.here hx rfl (hb hby at_25) rfl rfl (l' := #[.val (.int p1), .val (.int p2), .val (.int p3), .val (.int (1 : Int32)), .val (.ref w4), .unset, .unset, .unset, .unset, .unset, .unset, .unset, .unset, .unset, .unset, .unset]) rfl ?_
    show Steps p.tables e below (T5.setTop (mkF m 27 #[.val (.int p1), .val (.int p2), .val (.int p3), .val (.int (1 : Int32)), .val (.ref w4), .unset, .unset, .unset, .unset, .unset, .unset, .unset, .unset, .unset, .unset, .unset] [])) _
    refine XS.iloadN X5.here hx rfl (hb hby at_27) rfl ?_
    show Steps p.tables e below (T5.setTop (mkF m 28 #[.val (.int p1), .val (.int p2), .val (.int p3), .val (.int (1 : Int32)), .val (.ref w4), .unset, .unset, .unset, .unset, .unset, .unset, .unset, .unset, .unset, .unset, .unset] [(.int (1 : Int32))])) _
    refine XS.istore X5.here hx rfl (hb hby at_28) rfl (l' := #[.val (.int p1), .val (.int p2), .val (.int p3), .val (.int (1 : Int32)), .val (.ref w4), .val (.int (1 : Int32)), .unset, .unset, .unset, .unset, .unset, .unset, .unset, .unset, .unset, .unset]) rfl ?_
    show Steps p.tables e below (T5.setTop (mkF m 30 #[.val (.int p1), .val (.int p2), .val (.int p3), .val (.int (1 : Int32)), .val (.ref w4), .val (.int (1 : Int32)), .unset, .unset, .unset, .unset, .unset, .unset, .unset, .unset, .unset, .unset] [])) _
    refine XS.iloadN X5.here hx rfl (hb hby at_30) rfl ?_
    show Steps p.tables e below (T5.setTop (mkF m 31 #[.val (.int p1), .val (.int p2), .val (.int p3), .val (.int (1 : Int32)), .val (.ref w4), .val (.int (1 : Int32)), .unset, .unset, .unset, .unset, .unset, .unset, .unset, .unset, .unset, .unset] [(.int p2)])) _
    jvm_step X5.here [X5.here.top, hx, (hb hby at_31)]
    show Steps p.tables e below (T5.setTop (mkF m 32 #[.val (.int p1), .val (.int p2), .val (.int p3), .val (.int (1 : Int32)), .val (.ref w4), .val (.int (1 : Int32)), .unset, .unset, .unset, .unset, .unset, .unset, .unset, .unset, .unset, .unset] [(.double (FP.i2d p2))])) _
    jvm_step X5.here [X5.here.top, hx, (hb hby at_32)]
    refine ⟨#[.val (.int p1), .val (.int p2), .val (.int p3), .val (.int (1 : Int32)), .val (.ref w4), .val (.int (1 : Int32)), .val (.double (FP.i2d p2)), .second, .unset, .unset, .unset, .unset, .unset, .unset, .unset, .unset], rfl, ?_⟩
    show Steps p.tables e below (T5.setTop (mkF m 34 #[.val (.int p1), .val (.int p2), .val (.int p3), .val (.int (1 : Int32)), .val (.ref w4), .val (.int (1 : Int32)), .val (.double (FP.i2d p2)), .second, .unset, .unset, .unset, .unset, .unset, .unset, .unset, .unset] [])) _
    refine XS.iloadN X5.here hx rfl (hb hby at_34) rfl ?_
    show Steps p.tables e below (T5.setTop (mkF m 35 #[.val (.int p1), .val (.int p2), .val (.int p3), .val (.int (1 : Int32)), .val (.ref w4), .val (.int (1 : Int32)), .val (.double (FP.i2d p2)), .second, .unset, .unset, .unset, .unset, .unset, .unset, .unset, .unset] [(.int p3)])) _
    jvm_step X5.here [X5.here.top, hx, (hb hby at_35)]
    show Steps p.tables e below (T5.setTop (mkF m 36 #[.val (.int p1), .val (.int p2), .val (.int p3), .val (.int (1 : Int32)), .val (.ref w4), .val (.int (1 : Int32)), .val (.double (FP.i2d p2)), .second, .unset, .unset, .unset, .unset, .unset, .unset, .unset, .unset] [(.double (FP.i2d p3))])) _
    jvm_step X5.here [X5.here.top, hx, (hb hby at_36)]
    refine ⟨#[.val (.int p1), .val (.int p2), .val (.int p3), .val (.int (1 : Int32)), .val (.ref w4), .val (.int (1 : Int32)), .val (.double (FP.i2d p2)), .second, .val (.double (FP.i2d p3)), .second, .unset, .unset, .unset, .unset, .unset, .unset], rfl, ?_⟩
    show Steps p.tables e below (T5.setTop (mkF m 38 #[.val (.int p1), .val (.int p2), .val (.int p3), .val (.int (1 : Int32)), .val (.ref w4), .val (.int (1 : Int32)), .val (.double (FP.i2d p2)), .second, .val (.double (FP.i2d p3)), .second, .unset, .unset, .unset, .unset, .unset, .unset] [])) _
    refine XS.aload X5.here hx rfl (hb hby at_38) rfl rfl ?_
    show Steps p.tables e below (T5.setTop (mkF m 40 #[.val (.int p1), .val (.int p2), .val (.int p3), .val (.int (1 : Int32)), .val (.ref w4), .val (.int (1 : Int32)), .val (.double (FP.i2d p2)), .second, .val (.double (FP.i2d p3)), .second, .unset, .unset, .unset, .unset, .unset, .unset] [(.ref w4)])) _
    jvm_step X5.here [X5.here.top, hx, (hb hby at_40)]
    show Steps p.tables e below (T5.setTop (mkF m 42 #[.val (.int p1), .val (.int p2), .val (.int p3), .val (.int (1 : Int32)), .val (.ref w4), .val (.int (1 : Int32)), .val (.double (FP.i2d p2)), .second, .val (.double (FP.i2d p3)), .second, .unset, .unset, .unset, .unset, .unset, .unset] [(.double (FP.i2d p2)), (.ref w4)])) _
    refine st6.trans ?_
    show Steps p.tables e below (T6.setTop (mkF m 45 #[.val (.int p1), .val (.int p2), .val (.int p3), .val (.int (1 : Int32)), .val (.ref w4), .val (.int (1 : Int32)), .val (.double (FP.i2d p2)), .second, .val (.double (FP.i2d p3)), .second, .unset, .unset, .unset, .unset, .unset, .unset] [(.double (FP.i2d p2))])) _
    jvm_step X6.here [X6.here.top, hx, (hb hby at_45)]
    refine ⟨#[.val (.int p1), .val (.int p2), .val (.int p3), .val (.int (1 : Int32)), .val (.ref w4), .val (.int (1 : Int32)), .val (.double (FP.i2d p2)), .second, .val (.double (FP.i2d p3)), .second, .val (.double (FP.i2d p2)), .second, .unset, .unset, .unset, .unset], rfl, ?_⟩
    show Steps p.tables e below (T6.setTop (mkF m 47 #[.val (.int p1), .val (.int p2), .val (.int p3), .val (.int (1 : Int32)), .val (.ref w4), .val (.int (1 : Int32)), .val (.double (FP.i2d p2)), .second, .val (.double (FP.i2d p3)), .second, .val (.double (FP.i2d p2)), .second, .unset, .unset, .unset, .unset] [])) _
    refine XS.aload X6.here hx rfl (hb hby at_47) rfl rfl ?_
    show Steps p.tables e below (T6.setTop (mkF m 49 #[.val (.int p1), .val (.int p2), .val (.int p3), .val (.int (1 : Int32)), .val (.ref w4), .val (.int (1 : Int32)), .val (.double (FP.i2d p2)), .second, .val (.double (FP.i2d p3)), .second, .val (.double (FP.i2d p2)), .second, .unset, .unset, .unset, .unset] [(.ref w4)])) _
    jvm_step X6.here [X6.here.top, hx, (hb hby at_49)]
    show Steps p.tables e below (T6.setTop (mkF m 51 #[.val (.int p1), .val (.int p2), .val (.int p3), .val (.int (1 : Int32)), .val (.ref w4), .val (.int (1 : Int32)), .val (.double (FP.i2d p2)), .second, .val (.double (FP.i2d p3)), .second, .val (.double (FP.i2d p2)), .second, .unset, .unset, .unset, .unset] [(.double (FP.i2d p3)), (.ref w4)])) _
    refine st7.trans ?_
    show Steps p.tables e below (T7.setTop (mkF m 54 #[.val (.int p1), .val (.int p2), .val (.int p3), .val (.int (1 : Int32)), .val (.ref w4), .val (.int (1 : Int32)), .val (.double (FP.i2d p2)), .second, .val (.double (FP.i2d p3)), .second, .val (.double (FP.i2d p2)), .second, .unset, .unset, .unset, .unset] [(.double (FP.i2d p3))])) _
    jvm_step X7.here [X7.here.top, hx, (hb hby at_54)]
    refine ⟨#[.val (.int p1), .val (.int p2), .val (.int p3), .val (.int (1 : Int32)), .val (.ref w4), .val (.int (1 : Int32)), .val (.double (FP.i2d p2)), .second, .val (.double (FP.i2d p3)), .second, .val (.double (FP.i2d p2)), .second, .val (.double (FP.i2d p3)), .second, .unset, .unset], rfl, ?_⟩
    show Steps p.tables e below (T7.setTop (mkF m 56 #[.val (.int p1), .val (.int p2), .val (.int p3), .val (.int (1 : Int32)), .val (.ref w4), .val (.int (1 : Int32)), .val (.double (FP.i2d p2)), .second, .val (.double (FP.i2d p3)), .second, .val (.double (FP.i2d p2)), .second, .val (.double (FP.i2d p3)), .second, .unset, .unset] [])) _
    refine XS.iload X7.here hx rfl (hb hby at_56) rfl ?_
    show Steps p.tables e below (T7.setTop (mkF m 58 #[.val (.int p1), .val (.int p2), .val (.int p3), .val (.int (1 : Int32)), .val (.ref w4), .val (.int (1 : Int32)), .val (.double (FP.i2d p2)), .second, .val (.double (FP.i2d p3)), .second, .val (.double (FP.i2d p2)), .second, .val (.double (FP.i2d p3)), .second, .unset, .unset] [(.int (1 : Int32))])) _
    refine XS.ifNo X7.here hx rfl (hb hby at_58) rfl ((if0 _ _).trans (feq hc58).1) ?_
    show Steps p.tables e below (T7.setTop (mkF m 61 #[.val (.int p1), .val (.int p2), .val (.int p3), .val (.int (1 : Int32)), .val (.ref w4), .val (.int (1 : Int32)), .val (.double (FP.i2d p2)), .second, .val (.double (FP.i2d p3)), .second, .val (.double (FP.i2d p2)), .second, .val (.double (FP.i2d p3)), .second, .unset, .unset] [])) _
    refine XS.iloadN X7.here hx rfl (hb hby at_61) rfl ?_
    show Steps p.tables e below (T7.setTop (mkF m 62 #[.val (.int p1), .val (.int p2), .val (.int p3), .val (.int (1 : Int32)), .val (.ref w4), .val (.int (1 : Int32)), .val (.double (FP.i2d p2)), .second, .val (.double (FP.i2d p3)), .second, .val (.double (FP.i2d p2)), .second, .val (.double (FP.i2d p3)), .second, .unset, .unset] [(.int p2)])) _
    refine XS.iloadN X7.here hx rfl (hb hby at_62) rfl ?_
    show Steps p.tables e below (T7.setTop (mkF m 63 #[.val (.int p1), .val (.int p2), .val (.int p3), .val (.int (1 : Int32)), .val (.ref w4), .val (.int (1 : Int32)), .val (.double (FP.i2d p2)), .second, .val (.double (FP.i2d p3)), .second, .val (.double (FP.i2d p2)), .second, .val (.double (FP.i2d p3)), .second, .unset, .unset] [(.int p3), (.int p2)])) _
    refine XS.icmpYes X7.here hx rfl (pc0 := 63) (pc' := 70) rfl (hb hby at_63) rfl (flt hc63).2.1 (by decide) (by decide) ?_
    show Steps p.tables e below (T7.setTop (mkF m 70 #[.val (.int p1), .val (.int p2), .val (.int p3), .val (.int (1 : Int32)), .val (.ref w4), .val (.int (1 : Int32)), .val (.double (FP.i2d p2)), .second, .val (.double (FP.i2d p3)), .second, .val (.double (FP.i2d p2)), .second, .val (.double (FP.i2d p3)), .second, .unset, .unset] [])) _
    refine XS.iconst X7.here hx rfl (hb hby at_70) ?_
    show Steps p.tables e below (T7.setTop (mkF m 71 #[.val (.int p1), .val (.int p2), .val (.int p3), .val (.int (1 : Int32)), .val (.ref w4), .val (.int (1 : Int32)), .val (.double (FP.i2d p2)), .second, .val (.double (FP.i2d p3)), .second, .val (.double (FP.i2d p2)), .second, .val (.double (FP.i2d p3)), .second, .unset, .unset] [(.int (0 : Int32))])) _
    refine XS.goto X7.here hx rfl (pc0 := 71) (pc' := 84) rfl (hb hby at_71) (by decide) (by decide) ?_
    show Steps p.tables e below (T7.setTop (mkF m 84 #[.val (.int p1), .val (.int p2), .val (.int p3), .val (.int (1 : Int32)), .val (.ref w4), .val (.int (1 : Int32)), .val (.double (FP.i2d p2)), .second, .val (.double (FP.i2d p3)), .second, .val (.double (FP.i2d p2)), .second, .val (.double (FP.i2d p3)), .second, .unset, .unset] [(.int (0 : Int32))])) _
    refine XS.istore X7.here hx rfl (hb hby at_84) rfl (l' := #[.val (.int p1), .val (.int p2), .val (.int p3), .val (.int (1 : Int32)), .val (.ref w4), .val (.int (1 : Int32)), .val (.double (FP.i2d p2)), .second, .val (.double (FP.i2d p3)), .second, .val (.double (FP.i2d p2)), .second, .val (.double (FP.i2d p3)), .second, .val (.int (0 : Int32)), .unset]) rfl ?_
    show Steps p.tables e below (T7.setTop (mkF m 86 #[.val (.int p1), .val (.int p2), .val (.int p3), .val (.int (1 : Int32)), .val (.ref w4), .val (.int (1 : Int32)), .val (.double (FP.i2d p2)), .second, .val (.double (FP.i2d p3)), .second, .val (.double (FP.i2d p2)), .second, .val (.double (FP.i2d p3)), .second, .val (.int (0 : Int32)), .unset] [])) _
    refine XS.iload X7.here hx rfl (hb hby at_86) rfl ?_
    show Steps p.tables e below (T7.setTop (mkF m 88 #[.val (.int p1), .val (.int p2), .val (.int p3), .val (.int (1 : Int32)), .val (.ref w4), .val (.int (1 : Int32)), .val (.double (FP.i2d p2)), .second, .val (.double (FP.i2d p3)), .second, .val (.double (FP.i2d p2)), .second, .val (.double (FP.i2d p3)), .second, .val (.int (0 : Int32)), .unset] [(.int (1 : Int32))])) _
    refine XS.ifNo X7.here hx rfl (hb hby at_88) rfl ((if0 _ _).trans (feq hc88).1) ?_
    show Steps p.tables e below (T7.setTop (mkF m 91 #[.val (.int p1), .val (.int p2), .val (.int p3), .val (.int (1 : Int32)), .val (.ref w4), .val (.int (1 : Int32)), .val (.double (FP.i2d p2)), .second, .val (.double (FP.i2d p3)), .second, .val (.double (FP.i2d p2)), .second, .val (.double (FP.i2d p3)), .second, .val (.int (0 : Int32)), .unset] [])) _
    refine XS.iloadN X7.here hx rfl (hb hby at_91) rfl ?_
    show Steps p.tables e below (T7.setTop (mkF m 92 #[.val (.int p1), .val (.int p2), .val (.int p3), .val (.int (1 : Int32)), .val (.ref w4), .val (.int (1 : Int32)), .val (.double (FP.i2d p2)), .second, .val (.double (FP.i2d p3)), .second, .val (.double (FP.i2d p2)), .second, .val (.double (FP.i2d p3)), .second, .val (.int (0 : Int32)), .unset] [(.int p3)])) _
    refine XS.iloadN X7.here hx rfl (hb hby at_92) rfl ?_
    show Steps p.tables e below (T7.setTop (mkF m 93 #[.val (.int p1), .val (.int p2), .val (.int p3), .val (.int (1 : Int32)), .val (.ref w4), .val (.int (1 : Int32)), .val (.double (FP.i2d p2)), .second, .val (.double (FP.i2d p3)), .second, .val (.double (FP.i2d p2)), .second, .val (.double (FP.i2d p3)), .second, .val (.int (0 : Int32)), .unset] [(.int p2), (.int p3)])) _
    refine XS.icmpYes X7.here hx rfl (pc0 := 93) (pc' := 100) rfl (hb hby at_93) rfl (flt hc93).2.1 (by decide) (by decide) ?_
    show Steps p.tables e below (T7.setTop (mkF m 100 #[.val (.int p1), .val (.int p2), .val (.int p3), .val (.int (1 : Int32)), .val (.ref w4), .val (.int (1 : Int32)), .val (.double (FP.i2d p2)), .second, .val (.double (FP.i2d p3)), .second, .val (.double (FP.i2d p2)), .second, .val (.double (FP.i2d p3)), .second, .val (.int (0 : Int32)), .unset] [])) _
    refine XS.iconst X7.here hx rfl (hb hby at_100) ?_
    show Steps p.tables e below (T7.setTop (mkF m 101 #[.val (.int p1), .val (.int p2), .val (.int p3), .val (.int (1 : Int32)), .val (.ref w4), .val (.int (1 : Int32)), .val (.double (FP.i2d p2)), .second, .val (.double (FP.i2d p3)), .second, .val (.double (FP.i2d p2)), .second, .val (.double (FP.i2d p3)), .second, .val (.int (0 : Int32)), .unset] [(.int (0 : Int32))])) _
    refine XS.goto X7.here hx rfl (pc0 := 101) (pc' := 114) rfl (hb hby at_101) (by decide) (by decide) ?_
    show Steps p.tables e below (T7.setTop (mkF m 114 #[.val (.int p1), .val (.int p2), .val (.int p3), .val (.int (1 : Int32)), .val (.ref w4), .val (.int (1 : Int32)), .val (.double (FP.i2d p2)), .second, .val (.double (FP.i2d p3)), .second, .val (.double (FP.i2d p2)), .second, .val (.double (FP.i2d p3)), .second, .val (.int (0 : Int32)), .unset] [(.int (0 : Int32))])) _
    refine XS.istore X7.here hx rfl (hb hby at_114) rfl (l' := #[.val (.int p1), .val (.int p2), .val (.int p3), .val (.int (1 : Int32)), .val (.ref w4), .val (.int (1 : Int32)), .val (.double (FP.i2d p2)), .second, .val (.double (FP.i2d p3)), .second, .val (.double (FP.i2d p2)), .second, .val (.double (FP.i2d p3)), .second, .val (.int (0 : Int32)), .val (.int (0 : Int32))]) rfl ?_
    show Steps p.tables e below (T7.setTop (mkF m 116 #[.val (.int p1), .val (.int p2), .val (.int p3), .val (.int (1 : Int32)), .val (.ref w4), .val (.int (1 : Int32)), .val (.double (FP.i2d p2)), .second, .val (.double (FP.i2d p3)), .second, .val (.double (FP.i2d p2)), .second, .val (.double (FP.i2d p3)), .second, .val (.int (0 : Int32)), .val (.int (0 : Int32))] [])) _
    jvm_step X7.here [X7.here.top, hx, (hb hby at_116)]
    show Steps p.tables e below (T7.setTop (mkF m 118 #[.val (.int p1), .val (.int p2), .val (.int p3), .val (.int (1 : Int32)), .val (.ref w4), .val (.int (1 : Int32)), .val (.double (FP.i2d p2)), .second, .val (.double (FP.i2d p3)), .second, .val (.double (FP.i2d p2)), .second, .val (.double (FP.i2d p3)), .second, .val (.int (0 : Int32)), .val (.int (0 : Int32))] [(.double (FP.i2d p2))])) _
    jvm_step X7.here [X7.here.top, hx, (hb hby at_118)]
    show Steps p.tables e below (T7.setTop (mkF m 120 #[.val (.int p1), .val (.int p2), .val (.int p3), .val (.int (1 : Int32)), .val (.ref w4), .val (.int (1 : Int32)), .val (.double (FP.i2d p2)), .second, .val (.double (FP.i2d p3)), .second, .val (.double (FP.i2d p2)), .second, .val (.double (FP.i2d p3)), .second, .val (.int (0 : Int32)), .val (.int (0 : Int32))] [(.double (FP.i2d p3)), (.double (FP.i2d p2))])) _
    jvm_step X7.here [X7.here.top, hx, (hb hby at_120)]
    show Steps p.tables e below (T7.setTop (mkF m 121 #[.val (.int p1), .val (.int p2), .val (.int p3), .val (.int (1 : Int32)), .val (.ref w4), .val (.int (1 : Int32)), .val (.double (FP.i2d p2)), .second, .val (.double (FP.i2d p3)), .second, .val (.double (FP.i2d p2)), .second, .val (.double (FP.i2d p3)), .second, .val (.int (0 : Int32)), .val (.int (0 : Int32))] [(.int (cmpValue (FP.dcmp (FP.i2d p2) (FP.i2d p3)) .g))])) _
    refine XS.ifYes X7.here hx rfl (pc0 := 121) (pc' := 128) rfl (hb hby at_121) rfl ((if0 _ _).trans (flt ((by rw [own_eq (own_di p2) (own_di p3) (by rw [hc167])]; decide) : ¬ ((cmpValue (FP.dcmp (FP.i2d p2) (FP.i2d p3)) .g) < (0 : Int32)))).2.1) (by decide) (by decide) ?_
    show Steps p.tables e below (T7.setTop (mkF m 128 #[.val (.int p1), .val (.int p2), .val (.int p3), .val (.int (1 : Int32)), .val (.ref w4), .val (.int (1 : Int32)), .val (.double (FP.i2d p2)), .second, .val (.double (FP.i2d p3)), .second, .val (.double (FP.i2d p2)), .second, .val (.double (FP.i2d p3)), .second, .val (.int (0 : Int32)), .val (.int (0 : Int32))] [])) _
    refine XS.iconst X7.here hx rfl (hb hby at_128) ?_
    show Steps p.tables e below (T7.setTop (mkF m 129 #[.val (.int p1), .val (.int p2), .val (.int p3), .val (.int (1 : Int32)), .val (.ref w4), .val (.int (1 : Int32)), .val (.double (FP.i2d p2)), .second, .val (.double (FP.i2d p3)), .second, .val (.double (FP.i2d p2)), .second, .val (.double (FP.i2d p3)), .second, .val (.int (0 : Int32)), .val (.int (0 : Int32))] [(.int (0 : Int32))])) _
    refine XS.iload X7.here hx rfl (hb hby at_129) rfl ?_
    show Steps p.tables e below (T7.setTop (mkF m 131 #[.val (.int p1), .val (.int p2), .val (.int p3), .val (.int (1 : Int32)), .val (.ref w4), .val (.int (1 : Int32)), .val (.double (FP.i2d p2)), .second, .val (.double (FP.i2d p3)), .second, .val (.double (FP.i2d p2)), .second, .val (.double (FP.i2d p3)), .second, .val (.int (0 : Int32)), .val (.int (0 : Int32))] [(.int (0 : Int32)), (.int (0 : Int32))])) _
    refine XS.icmpNo X7.here hx rfl (hb hby at_131) rfl (teq (rfl : (0 : Int32) = (0 : Int32))).2 ?_
    show Steps p.tables e below (T7.setTop (mkF m 134 #[.val (.int p1), .val (.int p2), .val (.int p3), .val (.int (1 : Int32)), .val (.ref w4), .val (.int (1 : Int32)), .val (.double (FP.i2d p2)), .second, .val (.double (FP.i2d p3)), .second, .val (.double (FP.i2d p2)), .second, .val (.double (FP.i2d p3)), .second, .val (.int (0 : Int32)), .val (.int (0 : Int32))] [])) _
    jvm_step X7.here [X7.here.top, hx, (hb hby at_134)]
    show Steps p.tables e below (T7.setTop (mkF m 136 #[.val (.int p1), .val (.int p2), .val (.int p3), .val (.int (1 : Int32)), .val (.ref w4), .val (.int (1 : Int32)), .val (.double (FP.i2d p2)), .second, .val (.double (FP.i2d p3)), .second, .val (.double (FP.i2d p2)), .second, .val (.double (FP.i2d p3)), .second, .val (.int (0 : Int32)), .val (.int (0 : Int32))] [(.double (FP.i2d p3))])) _
    jvm_step X7.here [X7.here.top, hx, (hb hby at_136)]
    show Steps p.tables e below (T7.setTop (mkF m 138 #[.val (.int p1), .val (.int p2), .val (.int p3), .val (.int (1 : Int32)), .val (.ref w4), .val (.int (1 : Int32)), .val (.double (FP.i2d p2)), .second, .val (.double (FP.i2d p3)), .second, .val (.double (FP.i2d p2)), .second, .val (.double (FP.i2d p3)), .second, .val (.int (0 : Int32)), .val (.int (0 : Int32))] [(.double (FP.i2d p2)), (.double (FP.i2d p3))])) _
    jvm_step X7.here [X7.here.top, hx, (hb hby at_138)]
    show Steps p.tables e below (T7.setTop (mkF m 139 #[.val (.int p1), .val (.int p2), .val (.int p3), .val (.int (1 : Int32)), .val (.ref w4), .val (.int (1 : Int32)), .val (.double (FP.i2d p2)), .second, .val (.double (FP.i2d p3)), .second, .val (.double (FP.i2d p2)), .second, .val (.double (FP.i2d p3)), .second, .val (.int (0 : Int32)), .val (.int (0 : Int32))] [(.int (cmpValue (FP.dcmp (FP.i2d p3) (FP.i2d p2)) .g))])) _
    refine XS.ifYes X7.here hx rfl (pc0 := 139) (pc' := 146) rfl (hb hby at_139) rfl ((if0 _ _).trans (flt ((by rw [own_eq (own_di p3) (own_di p2) (by rw [hc167])]; decide) : ¬ ((cmpValue (FP.dcmp (FP.i2d p3) (FP.i2d p2)) .g) < (0 : Int32)))).2.1) (by decide) (by decide) ?_
    show Steps p.tables e below (T7.setTop (mkF m 146 #[.val (.int p1), .val (.int p2), .val (.int p3), .val (.int (1 : Int32)), .val (.ref w4), .val (.int (1 : Int32)), .val (.double (FP.i2d p2)), .second, .val (.double (FP.i2d p3)), .second, .val (.double (FP.i2d p2)), .second, .val (.double (FP.i2d p3)), .second, .val (.int (0 : Int32)), .val (.int (0 : Int32))] [])) _
    refine XS.iconst X7.here hx rfl (hb hby at_146) ?_
    show Steps p.tables e below (T7.setTop (mkF m 147 #[.val (.int p1), .val (.int p2), .val (.int p3), .val (.int (1 : Int32)), .val (.ref w4), .val (.int (1 : Int32)), .val (.double (FP.i2d p2)), .second, .val (.double (FP.i2d p3)), .second, .val (.double (FP.i2d p2)), .second, .val (.double (FP.i2d p3)), .second, .val (.int (0 : Int32)), .val (.int (0 : Int32))] [(.int (0 : Int32))])) _
    refine XS.iload X7.here hx rfl (hb hby at_147) rfl ?_
    show Steps p.tables e below (T7.setTop (mkF m 149 #[.val (.int p1), .val (.int p2), .val (.int p3), .val (.int (1 : Int32)), .val (.ref w4), .val (.int (1 : Int32)), .val (.double (FP.i2d p2)), .second, .val (.double (FP.i2d p3)), .second, .val (.double (FP.i2d p2)), .second, .val (.double (FP.i2d p3)), .second, .val (.int (0 : Int32)), .val (.int (0 : Int32))] [(.int (0 : Int32)), (.int (0 : Int32))])) _
    refine XS.icmpNo X7.here hx rfl (hb hby at_149) rfl (teq (rfl : (0 : Int32) = (0 : Int32))).2 ?_
    show Steps p.tables e below (T7.setTop (mkF m 152 #[.val (.int p1), .val (.int p2), .val (.int p3), .val (.int (1 : Int32)), .val (.ref w4), .val (.int (1 : Int32)), .val (.double (FP.i2d p2)), .second, .val (.double (FP.i2d p3)), .second, .val (.double (FP.i2d p2)), .second, .val (.double (FP.i2d p3)), .second, .val (.int (0 : Int32)), .val (.int (0 : Int32))] [])) _
    jvm_step X7.here [X7.here.top, hx, (hb hby at_152)]
    show Steps p.tables e below (T7.setTop (mkF m 154 #[.val (.int p1), .val (.int p2), .val (.int p3), .val (.int (1 : Int32)), .val (.ref w4), .val (.int (1 : Int32)), .val (.double (FP.i2d p2)), .second, .val (.double (FP.i2d p3)), .second, .val (.double (FP.i2d p2)), .second, .val (.double (FP.i2d p3)), .second, .val (.int (0 : Int32)), .val (.int (0 : Int32))] [(.double (FP.i2d p2))])) _
    jvm_step X7.here [X7.here.top, hx, (hb hby at_154)]
    show Steps p.tables e below (T7.setTop (mkF m 156 #[.val (.int p1), .val (.int p2), .val (.int p3), .val (.int (1 : Int32)), .val (.ref w4), .val (.int (1 : Int32)), .val (.double (FP.i2d p2)), .second, .val (.double (FP.i2d p3)), .second, .val (.double (FP.i2d p2)), .second, .val (.double (FP.i2d p3)), .second, .val (.int (0 : Int32)), .val (.int (0 : Int32))] [(.double (FP.i2d p3)), (.double (FP.i2d p2))])) _
    jvm_step X7.here [X7.here.top, hx, (hb hby at_156)]
    show Steps p.tables e below (T7.setTop (mkF m 157 #[.val (.int p1), .val (.int p2), .val (.int p3), .val (.int (1 : Int32)), .val (.ref w4), .val (.int (1 : Int32)), .val (.double (FP.i2d p2)), .second, .val (.double (FP.i2d p3)), .second, .val (.double (FP.i2d p2)), .second, .val (.double (FP.i2d p3)), .second, .val (.int (0 : Int32)), .val (.int (0 : Int32))] [(.int (cmpValue (FP.dcmp (FP.i2d p2) (FP.i2d p3)) .l))])) _
    refine XS.ifNo X7.here hx rfl (hb hby at_157) rfl ((if0 _ _).trans (teq ((own_eq (own_di p2) (own_di p3) (by rw [hc167]) .l) : (cmpValue (FP.dcmp (FP.i2d p2) (FP.i2d p3)) .l) = (0 : Int32))).2) ?_
    show Steps p.tables e below (T7.setTop (mkF m 160 #[.val (.int p1), .val (.int p2), .val (.int p3), .val (.int (1 : Int32)), .val (.ref w4), .val (.int (1 : Int32)), .val (.double (FP.i2d p2)), .second, .val (.double (FP.i2d p3)), .second, .val (.double (FP.i2d p2)), .second, .val (.double (FP.i2d p3)), .second, .val (.int (0 : Int32)), .val (.int (0 : Int32))] [])) _
    refine XS.iconst X7.here hx rfl (hb hby at_160) ?_
    show Steps p.tables e below (T7.setTop (mkF m 161 #[.val (.int p1), .val (.int p2), .val (.int p3), .val (.int (1 : Int32)), .val (.ref w4), .val (.int (1 : Int32)), .val (.double (FP.i2d p2)), .second, .val (.double (FP.i2d p3)), .second, .val (.double (FP.i2d p2)), .second, .val (.double (FP.i2d p3)), .second, .val (.int (0 : Int32)), .val (.int (0 : Int32))] [(.int (1 : Int32))])) _
    refine XS.goto X7.here hx rfl (pc0 := 161) (pc' := 165) rfl (hb hby at_161) (by decide) (by decide) ?_
    show Steps p.tables e below (T7.setTop (mkF m 165 #[.val (.int p1), .val (.int p2), .val (.int p3), .val (.int (1 : Int32)), .val (.ref w4), .val (.int (1 : Int32)), .val (.double (FP.i2d p2)), .second, .val (.double (FP.i2d p3)), .second, .val (.double (FP.i2d p2)), .second, .val (.double (FP.i2d p3)), .second, .val (.int (0 : Int32)), .val (.int (0 : Int32))] [(.int (1 : Int32))])) _
    refine XS.iloadN X7.here hx rfl (hb hby at_165) rfl ?_
    show Steps p.tables e below (T7.setTop (mkF m 166 #[.val (.int p1), .val (.int p2), .val (.int p3), .val (.int (1 : Int32)), .val (.ref w4), .val (.int (1 : Int32)), .val (.double (FP.i2d p2)), .second, .val (.double (FP.i2d p3)), .second, .val (.double (FP.i2d p2)), .second, .val (.double (FP.i2d p3)), .second, .val (.int (0 : Int32)), .val (.int (0 : Int32))] [(.int p2), (.int (1 : Int32))])) _
    refine XS.iloadN X7.here hx rfl (hb hby at_166) rfl ?_
    show Steps p.tables e below (T7.setTop (mkF m 167 #[.val (.int p1), .val (.int p2), .val (.int p3), .val (.int (1 : Int32)), .val (.ref w4), .val (.int (1 : Int32)), .val (.double (FP.i2d p2)), .second, .val (.double (FP.i2d p3)), .second, .val (.double (FP.i2d p2)), .second, .val (.double (FP.i2d p3)), .second, .val (.int (0 : Int32)), .val (.int (0 : Int32))] [(.int p3), (.int p2), (.int (1 : Int32))])) _
    refine XS.icmpNo X7.here hx rfl (hb hby at_167) rfl (teq hc167).2 ?_
    show Steps p.tables e below (T7.setTop (mkF m 170 #[.val (.int p1), .val (.int p2), .val (.int p3), .val (.int (1 : Int32)), .val (.ref w4), .val (.int (1 : Int32)), .val (.double (FP.i2d p2)), .second, .val (.double (FP.i2d p3)), .second, .val (.double (FP.i2d p2)), .second, .val (.double (FP.i2d p3)), .second, .val (.int (0 : Int32)), .val (.int (0 : Int32))] [(.int (1 : Int32))])) _
    refine XS.iconst X7.here hx rfl (hb hby at_170) ?_
    show Steps p.tables e below (T7.setTop (mkF m 171 #[.val (.int p1), .val (.int p2), .val (.int p3), .val (.int (1 : Int32)), .val (.ref w4), .val (.int (1 : Int32)), .val (.double (FP.i2d p2)), .second, .val (.double (FP.i2d p3)), .second, .val (.double (FP.i2d p2)), .second, .val (.double (FP.i2d p3)), .second, .val (.int (0 : Int32)), .val (.int (0 : Int32))] [(.int (1 : Int32)), (.int (1 : Int32))])) _
    refine XS.goto X7.here hx rfl (pc0 := 171) (pc' := 175) rfl (hb hby at_171) (by decide) (by decide) ?_
    show Steps p.tables e below (T7.setTop (mkF m 175 #[.val (.int p1), .val (.int p2), .val (.int p3), .val (.int (1 : Int32)), .val (.ref w4), .val (.int (1 : Int32)), .val (.double (FP.i2d p2)), .second, .val (.double (FP.i2d p3)), .second, .val (.double (FP.i2d p2)), .second, .val (.double (FP.i2d p3)), .second, .val (.int (0 : Int32)), .val (.int (0 : Int32))] [(.int (1 : Int32)), (.int (1 : Int32))])) _
    refine XS.icmpNo X7.here hx rfl (hb hby at_175) rfl (teq (rfl : (1 : Int32) = (1 : Int32))).2 ?_
    show Steps p.tables e below (T7.setTop (mkF m 178 #[.val (.int p1), .val (.int p2), .val (.int p3), .val (.int (1 : Int32)), .val (.ref w4), .val (.int (1 : Int32)), .val (.double (FP.i2d p2)), .second, .val (.double (FP.i2d p3)), .second, .val (.double (FP.i2d p2)), .second, .val (.double (FP.i2d p3)), .second, .val (.int (0 : Int32)), .val (.int (0 : Int32))] [])) _
    refine XS.iconst X7.here hx rfl (hb hby at_178) ?_
    show Steps p.tables e below (T7.setTop (mkF m 179 #[.val (.int p1), .val (.int p2), .val (.int p3), .val (.int (1 : Int32)), .val (.ref w4), .val (.int (1 : Int32)), .val (.double (FP.i2d p2)), .second, .val (.double (FP.i2d p3)), .second, .val (.double (FP.i2d p2)), .second, .val (.double (FP.i2d p3)), .second, .val (.int (0 : Int32)), .val (.int (0 : Int32))] [(.int (1 : Int32))])) _
    refine XS.goto X7.here hx rfl (pc0 := 179) (pc' := 183) rfl (hb hby at_179) (by decide) (by decide) ?_
    show Steps p.tables e below (T7.setTop (mkF m 183 #[.val (.int p1), .val (.int p2), .val (.int p3), .val (.int (1 : Int32)), .val (.ref w4), .val (.int (1 : Int32)), .val (.double (FP.i2d p2)), .second, .val (.double (FP.i2d p3)), .second, .val (.double (FP.i2d p2)), .second, .val (.double (FP.i2d p3)), .second, .val (.int (0 : Int32)), .val (.int (0 : Int32))] [(.int (1 : Int32))])) _
    exact retN X7 hx (t := .boolean) Bd.returns (by simp) (hb hby at_183) hr
  · show Q0c Z p1 p2 p3 w4 h0 n0 _ T7.heap _
    exact ⟨rfl, N7⟩
def Q0d (Z : State) (p1 : Int32) (p2 : Int32) (p3 : Int32) (w4 : Addr) (h0 : Heap) (n0 : Nat) (v : Option Value) (h : Heap) (L : List Loc) : Prop := v = some (.int (1 : Int32)) ∧ Fr n0 L
set_option maxRecDepth 65536 in
set_option maxHeartbeats 40000000 in
theorem rm0d (l : Launch) (Z : State) (a0 : Array Value) (hw : ∀ d ∈ tables_1, d.before a0 Z = true) (ws : List Jvm.Cond) (p1 : Int32) (p2 : Int32) (p3 : Int32) (w4 : Addr) (h0 : Heap) (n0 : Nat) (Z0 : n0 ≤ h0.size) (S_ENTROPY : Sta Z h0 "com/example/upweight/upweight/Specificity" "ENTROPY" "Lcom/example/upweight/upweight/Specificity;" (.ref w4)) (E_w4 : Exa Z h0 w4 "com/example/upweight/upweight/Specificity$1") (FH : Fld Z h0 w4 "com/example/upweight/upweight/Specificity" "higherIsMoreSpecific" "Z" (.int 0)) (hc3 : (p1 &&& (1 : Int32)) = (0 : Int32)) (hc76 : p3 < p2) (hc106 : ¬ (p2 < p3)) (hc167 : ¬ (p2 = p3)) :
    MetFree l x (head1 (Jvm.Cond.code x code maxLocals ret :: ws) room_1) (fun a U => a = #[(.int p1), (.int p2), (.int p3)] ∧ Z.Warmed39 U.vm ∧ U.heap = h0) (fun _ _ _ _ _ => True) (fun _ U o U' => ∃ v L, o = .returned v ∧ Q0d Z p1 p2 p3 w4 h0 n0 v U'.heap L ∧ FrameEnd U o U' L room_1.cells room_1.slots) := by
  refine MetFree.of_bodySF (plainFor_of_name pn_0) hisR ?_
  intro p e s m args below meth c s₁ Bd hml0 hP hK
  obtain ⟨rfl, hZ, hh⟩ := hP
  have hx := Bd.exec
  have hby := Bd.bytes
  have hml : c.maxLocals = 16 := hml0
  have hown : s.vm.findClass "com/example/upweight/upweight/SpecificityLeastSpecificFirstKeyPinLaw" = some m.cls := findClass_of_methodNamed Bd.named
  have hnm := (name_of_methodNamed Bd.named Bd.method).1
  have X0 : Stand p l e room_1 s m #[(.int p1), (.int p2), (.int p3)] below meth c s₁ [] 0 0 := Stand.of_body Bd
  have e0 : s₁.heap = h0 := by rw [← hh, Bd.state]; rfl
  have N0 := Fr.nil n0
  have pre0 : ∀ t, Steps p.tables e below (s₁.setTop (mkF m 0 #[.val (.int p1), .val (.int p2), .val (.int p3), .unset, .unset, .unset, .unset, .unset, .unset, .unset, .unset, .unset, .unset, .unset, .unset, .unset] [])) t → Steps p.tables e below (s₁.setTop (entryFrame m #[(.int p1), (.int p2), (.int p3)] maxLocals)) t := fun t k => castTop (ef_0 m p1 p2 p3) k
  obtain ⟨T5, X5, e5, st5⟩ := getS2 X0 hx hZ hown (host := "") (Or.inl (hw _ (List.mem_of_getElem? (i := 0) rfl))) Via.refl e0 S_ENTROPY (g := (mkF m 22 #[.val (.int p1), .val (.int p2), .val (.int p3), .val (.int (0 : Int32)), .unset, .unset, .unset, .unset, .unset, .unset, .unset, .unset, .unset, .unset, .unset, .unset] [])) rfl (hb hby at_22)
  obtain ⟨cq6, kq6, q6a, q6b, q6c⟩ := isOf hZ e5 E_w4
  obtain ⟨_, _, ⟨T6, L6, k6, n6⟩, -, X6, ⟨Lc6, hQ6, l6, y6, z6⟩, st6⟩ := X5.virtualBack hx (y := (⟨"com/example/upweight/upweight/Specificity", "leastSpecificFirstKey", "(D)D"⟩ : MethodName)) (z := (⟨"com/example/upweight/upweight/Specificity", "leastSpecificFirstKey", "(D)D"⟩ : MethodName)) hown (mvT hZ (hw _ (List.mem_of_getElem? (i := 3) rfl))) (mvT hZ (hw _ (List.mem_of_getElem? (i := 4) rfl))) (notFace_of_selects (args := #[]) (mvT hZ (hw _ (List.mem_of_getElem? (i := 6) rfl)))) (mvT hZ (hw _ (List.mem_of_getElem? (i := 6) rfl))) (mvT hZ (hw _ (List.mem_of_getElem? (i := 5) rfl))) (by decide) (backOf (W := 0) (rm1t l Z a0 hw [] w4 (FP.i2d p2) 0 h0 n0 Z0 FH rfl) hZ (hw _ (List.mem_of_getElem? (i := 7) rfl)) (hw _ (List.mem_of_getElem? (i := 1) rfl)) (by decide) (by decide)) q6a q6c (g := (mkF m 42 #[.val (.int p1), .val (.int p2), .val (.int p3), .val (.int (0 : Int32)), .val (.ref w4), .val (.int (0 : Int32)), .val (.double (FP.i2d p2)), .second, .val (.double (FP.i2d p3)), .second, .unset, .unset, .unset, .unset, .unset, .unset] [(.double (FP.i2d p2)), (.ref w4)])) rfl (by rw [hml]; rfl) (Steps.refl _) (argsL := [(.double (FP.i2d p2))]) (rest := []) (lenOf pd_0_0 rfl) rfl (by show 2 * 0 + _ ≤ _; exact Nat.le_of_eq rfl) (hb hby at_42) (fun _ _ => ⟨rfl, e5, (by decide : 0 + 0 ≤ _), (by decide : 0 + 0 ≤ _)⟩)
  dsimp only [Pt.U, Pt.locs, Pt.cells, Pt.slots] at X6 l6 y6 z6 st6 hQ6
  subst l6 y6 z6
  obtain ⟨rfl, N6q, q6⟩ := hQ6
  have K6 : Keep h0 T6.heap [] := by rw [q6]; exact Keep.refl _ _
  have N6 := Fr.app N0 N6q
  obtain ⟨cq7, kq7, q7a, q7b, q7c⟩ := isOf hZ rfl (E_w4.keep K6)
  obtain ⟨_, _, ⟨T7, L7, k7, n7⟩, -, X7, ⟨Lc7, hQ7, l7, y7, z7⟩, st7⟩ := X6.virtualBack hx (y := (⟨"com/example/upweight/upweight/Specificity", "leastSpecificFirstKey", "(D)D"⟩ : MethodName)) (z := (⟨"com/example/upweight/upweight/Specificity", "leastSpecificFirstKey", "(D)D"⟩ : MethodName)) hown (mvT hZ (hw _ (List.mem_of_getElem? (i := 3) rfl))) (mvT hZ (hw _ (List.mem_of_getElem? (i := 4) rfl))) (notFace_of_selects (args := #[]) (mvT hZ (hw _ (List.mem_of_getElem? (i := 6) rfl)))) (mvT hZ (hw _ (List.mem_of_getElem? (i := 6) rfl))) (mvT hZ (hw _ (List.mem_of_getElem? (i := 5) rfl))) (by decide) (backOf (W := 0) (rm1t l Z a0 hw [] w4 (FP.i2d p3) 0 T6.heap n0 (by rw [q6]; exact Z0) (by rw [q6]; exact FH) rfl) hZ (hw _ (List.mem_of_getElem? (i := 7) rfl)) (hw _ (List.mem_of_getElem? (i := 1) rfl)) (by decide) (by decide)) q7a q7c (g := (mkF m 51 #[.val (.int p1), .val (.int p2), .val (.int p3), .val (.int (0 : Int32)), .val (.ref w4), .val (.int (0 : Int32)), .val (.double (FP.i2d p2)), .second, .val (.double (FP.i2d p3)), .second, .val (.double (FP.dneg (FP.i2d p2))), .second, .unset, .unset, .unset, .unset] [(.double (FP.i2d p3)), (.ref w4)])) rfl (by rw [hml]; rfl) (Steps.refl _) (argsL := [(.double (FP.i2d p3))]) (rest := []) (lenOf pd_0_0 rfl) rfl (by show 2 * 0 + _ ≤ _; exact Nat.le_of_eq rfl) (hb hby at_51) (fun _ _ => ⟨rfl, rfl, (by decide : 0 + 0 ≤ _), (by decide : 0 + 0 ≤ _)⟩)
  dsimp only [Pt.U, Pt.locs, Pt.cells, Pt.slots] at X7 l7 y7 z7 st7 hQ7
  subst l7 y7 z7
  obtain ⟨rfl, N7q, q7⟩ := hQ7
  have N7 := Fr.app N6 N7q
  obtain ⟨fs, hr, hrun, hended, hW, hsame⟩ := X7.leave (v := some (.int (1 : Int32))) (fun h => by rw [Bd.returns] at h; cases h)
  refine ⟨_, _, pre0 _ ?_, hrun, hended, _, _, rfl, ?_, ⟨_, rfl⟩, hW, hsame.mono (by decide) (by decide)⟩
  · show Steps p.tables e below (s₁.setTop (mkF m 0 #[.val (.int p1), .val (.int p2), .val (.int p3), .unset, .unset, .unset, .unset, .unset, .unset, .unset, .unset, .unset, .unset, .unset, .unset, .unset] [])) _
    refine XS.iloadN X0.here hx rfl (hb hby at_0) rfl ?_
    show Steps p.tables e below (s₁.setTop (mkF m 1 #[.val (.int p1), .val (.int p2), .val (.int p3), .unset, .unset, .unset, .unset, .unset, .unset, .unset, .unset, .unset, .unset, .unset, .unset, .unset] [(.int p1)])) _
    refine XS.iconst X0.here hx rfl (hb hby at_1) ?_
    show Steps p.tables e below (s₁.setTop (mkF m 2 #[.val (.int p1), .val (.int p2), .val (.int p3), .unset, .unset, .unset, .unset, .unset, .unset, .unset, .unset, .unset, .unset, .unset, .unset, .unset] [(.int (1 : Int32)), (.int p1)])) _
    refine XS.iand X0.here hx rfl (hb hby at_2) rfl ?_
    show Steps p.tables e below (s₁.setTop (mkF m 3 #[.val (.int p1), .val (.int p2), .val (.int p3), .unset, .unset, .unset, .unset, .unset, .unset, .unset, .unset, .unset, .unset, .unset, .unset, .unset] [(.int (p1 &&& (1 : Int32)))])) _
    refine XS.ifYes X0.here hx rfl (pc0 := 3) (pc' := 10) rfl (hb hby at_3) rfl ((if0 _ _).trans (teq hc3).1) (by decide) (by decide) ?_
    show Steps p.tables e below (s₁.setTop (mkF m 10 #[.val (.int p1), .val (.int p2), .val (.int p3), .unset, .unset, .unset, .unset, .unset, .unset, .unset, .unset, .unset, .unset, .unset, .unset, .unset] [])) _
    refine XS.iconst X0.here hx rfl (hb hby at_10) ?_
    show Steps p.tables e below (s₁.setTop (mkF m 11 #[.val (.int p1), .val (.int p2), .val (.int p3), .unset, .unset, .unset, .unset, .unset, .unset, .unset, .unset, .unset, .unset, .unset, .unset, .unset] [(.int (0 : Int32))])) _
    refine XS.istoreN X0.here hx rfl (hb hby at_11) rfl (l' := #[.val (.int p1), .val (.int p2), .val (.int p3), .val (.int (0 : Int32)), .unset, .unset, .unset, .unset, .unset, .unset, .unset, .unset, .unset, .unset, .unset, .unset]) rfl ?_
    show Steps p.tables e below (s₁.setTop (mkF m 12 #[.val (.int p1), .val (.int p2), .val (.int p3), .val (.int (0 : Int32)), .unset, .unset, .unset, .unset, .unset, .unset, .unset, .unset, .unset, .unset, .unset, .unset] [])) _
    refine XS.iloadN X0.here hx rfl (hb hby at_12) rfl ?_
    show Steps p.tables e below (s₁.setTop (mkF m 13 #[.val (.int p1), .val (.int p2), .val (.int p3), .val (.int (0 : Int32)), .unset, .unset, .unset, .unset, .unset, .unset, .unset, .unset, .unset, .unset, .unset, .unset] [(.int (0 : Int32))])) _
    refine XS.ifYes X0.here hx rfl (pc0 := 13) (pc' := 22) rfl (hb hby at_13) rfl ((if0 _ _).trans (teq (rfl : (0 : Int32) = (0 : Int32))).1) (by decide) (by decide) ?_
    show Steps p.tables e below (s₁.setTop (mkF m 22 #[.val (.int p1), .val (.int p2), .val (.int p3), .val (.int (0 : Int32)), .unset, .unset, .unset, .unset, .unset, .unset, .unset, .unset, .unset, .unset, .unset, .unset] [])) _
    refine st5 _ ?_
    show Steps p.tables e below (T5.setTop (mkF m 25 #[.val (.int p1), .val (.int p2), .val (.int p3), .val (.int (0 : Int32)), .unset, .unset, .unset, .unset, .unset, .unset, .unset, .unset, .unset, .unset, .unset, .unset] [(.ref w4)])) _
    refine XS.astore X5.here hx rfl (hb hby at_25) rfl rfl (l' := #[.val (.int p1), .val (.int p2), .val (.int p3), .val (.int (0 : Int32)), .val (.ref w4), .unset, .unset, .unset, .unset, .unset, .unset, .unset, .unset, .unset, .unset, .unset]) rfl ?_
    show Steps p.tables e below (T5.setTop (mkF m 27 #[.val (.int p1), .val (.int p2), .val (.int p3), .val (.int (0 : Int32)), .val (.ref w4), .unset, .unset, .unset, .unset, .unset, .unset, .unset, .unset, .unset, .unset, .unset] [])) _
    refine XS.iloadN X5.here hx rfl (hb hby at_27) rfl ?_
    show Steps p.tables e below (T5.setTop (mkF m 28 #[.val (.int p1), .val (.int p2), .val (.int p3), .val (.int (0 : Int32)), .val (.ref w4), .unset, .unset, .unset, .unset, .unset, .unset, .unset, .unset, .unset, .unset, .unset] [(.int (0 : Int32))])) _
    refine XS.istore X5.here hx rfl (hb hby at_28) rfl (l' := #[.val (.int p1), .val (.int p2), .val (.int p3), .val (.int (0 : Int32)), .val (.ref w4), .val (.int (0 : Int32)), .unset, .unset, .unset, .unset, .unset, .unset, .unset, .unset, .unset, .unset]) rfl ?_
    show Steps p.tables e below (T5.setTop (mkF m 30 #[.val (.int p1), .val (.int p2), .val (.int p3), .val (.int (0 : Int32)), .val (.ref w4), .val (.int (0 : Int32)), .unset, .unset, .unset, .unset, .unset, .unset, .unset, .unset, .unset, .unset] [])) _
    refine XS.iloadN X5.here hx rfl (hb hby at_30) rfl ?_
    show Steps p.tables e below (T5.setTop (mkF m 31 #[.val (.int p1), .val (.int p2), .val (.int p3), .val (.int (0 : Int32)), .val (.ref w4), .val (.int (0 : Int32)), .unset, .unset, .unset, .unset, .unset, .unset, .unset, .unset, .unset, .unset] [(.int p2)])) _
    jvm_step X5.here [X5.here.top, hx, (hb hby at_31)]
    show Steps p.tables e below (T5.setTop (mkF m 32 #[.val (.int p1), .val (.int p2), .val (.int p3), .val (.int (0 : Int32)), .val (.ref w4), .val (.int (0 : Int32)), .unset, .unset, .unset, .unset, .unset, .unset, .unset, .unset, .unset, .unset] [(.double (FP.i2d p2))])) _
    jvm_step X5.here [X5.here.top, hx, (hb hby at_32)]
    refine ⟨#[.val (.int p1), .val (.int p2), .val (.int p3), .val (.int (0 : Int32)), .val (.ref w4), .val (.int (0 : Int32)), .val (.double (FP.i2d p2)), .second, .unset, .unset, .unset, .unset, .unset, .unset, .unset, .unset], rfl, ?_⟩
    show Steps p.tables e below (T5.setTop (mkF m 34 #[.val (.int p1), .val (.int p2), .val (.int p3), .val (.int (0 : Int32)), .val (.ref w4), .val (.int (0 : Int32)), .val (.double (FP.i2d p2)), .second, .unset, .unset, .unset, .unset, .unset, .unset, .unset, .unset] [])) _
    refine XS.iloadN X5.here hx rfl (hb hby at_34) rfl ?_
    show Steps p.tables e below (T5.setTop (mkF m 35 #[.val (.int p1), .val (.int p2), .val (.int p3), .val (.int (0 : Int32)), .val (.ref w4), .val (.int (0 : Int32)), .val (.double (FP.i2d p2)), .second, .unset, .unset, .unset, .unset, .unset, .unset, .unset, .unset] [(.int p3)])) _
    jvm_step X5.here [X5.here.top, hx, (hb hby at_35)]
    show Steps p.tables e below (T5.setTop (mkF m 36 #[.val (.int p1), .val (.int p2), .val (.int p3), .val (.int (0 : Int32)), .val (.ref w4), .val (.int (0 : Int32)), .val (.double (FP.i2d p2)), .second, .unset, .unset, .unset, .unset, .unset, .unset, .unset, .unset] [(.double (FP.i2d p3))])) _
    jvm_step X5.here [X5.here.top, hx, (hb hby at_36)]
    refine ⟨#[.val (.int p1), .val (.int p2), .val (.int p3), .val (.int (0 : Int32)), .val (.ref w4), .val (.int (0 : Int32)), .val (.double (FP.i2d p2)), .second, .val (.double (FP.i2d p3)), .second, .unset, .unset, .unset, .unset, .unset, .unset], rfl, ?_⟩
    show Steps p.tables e below (T5.setTop (mkF m 38 #[.val (.int p1), .val (.int p2), .val (.int p3), .val (.int (0 : Int32)), .val (.ref w4), .val (.int (0 : Int32)), .val (.double (FP.i2d p2)), .second, .val (.double (FP.i2d p3)), .second, .unset, .unset, .unset, .unset, .unset, .unset] [])) _
    refine XS.aload X5.here hx rfl (hb hby at_38) rfl rfl ?_
    show Steps p.tables e below (T5.setTop (mkF m 40 #[.val (.int p1), .val (.int p2), .val (.int p3), .val (.int (0 : Int32)), .val (.ref w4), .val (.int (0 : Int32)), .val (.double (FP.i2d p2)), .second, .val (.double (FP.i2d p3)), .second, .unset, .unset, .unset, .unset, .unset, .unset] [(.ref w4)])) _
    jvm_step X5.here [X5.here.top, hx, (hb hby at_40)]
    show Steps p.tables e below (T5.setTop (mkF m 42 #[.val (.int p1), .val (.int p2), .val (.int p3), .val (.int (0 : Int32)), .val (.ref w4), .val (.int (0 : Int32)), .val (.double (FP.i2d p2)), .second, .val (.double (FP.i2d p3)), .second, .unset, .unset, .unset, .unset, .unset, .unset] [(.double (FP.i2d p2)), (.ref w4)])) _
    refine st6.trans ?_
    show Steps p.tables e below (T6.setTop (mkF m 45 #[.val (.int p1), .val (.int p2), .val (.int p3), .val (.int (0 : Int32)), .val (.ref w4), .val (.int (0 : Int32)), .val (.double (FP.i2d p2)), .second, .val (.double (FP.i2d p3)), .second, .unset, .unset, .unset, .unset, .unset, .unset] [(.double (FP.dneg (FP.i2d p2)))])) _
    jvm_step X6.here [X6.here.top, hx, (hb hby at_45)]
    refine ⟨#[.val (.int p1), .val (.int p2), .val (.int p3), .val (.int (0 : Int32)), .val (.ref w4), .val (.int (0 : Int32)), .val (.double (FP.i2d p2)), .second, .val (.double (FP.i2d p3)), .second, .val (.double (FP.dneg (FP.i2d p2))), .second, .unset, .unset, .unset, .unset], rfl, ?_⟩
    show Steps p.tables e below (T6.setTop (mkF m 47 #[.val (.int p1), .val (.int p2), .val (.int p3), .val (.int (0 : Int32)), .val (.ref w4), .val (.int (0 : Int32)), .val (.double (FP.i2d p2)), .second, .val (.double (FP.i2d p3)), .second, .val (.double (FP.dneg (FP.i2d p2))), .second, .unset, .unset, .unset, .unset] [])) _
    refine XS.aload X6.here hx rfl (hb hby at_47) rfl rfl ?_
    show Steps p.tables e below (T6.setTop (mkF m 49 #[.val (.int p1), .val (.int p2), .val (.int p3), .val (.int (0 : Int32)), .val (.ref w4), .val (.int (0 : Int32)), .val (.double (FP.i2d p2)), .second, .val (.double (FP.i2d p3)), .second, .val (.double (FP.dneg (FP.i2d p2))), .second, .unset, .unset, .unset, .unset] [(.ref w4)])) _
    jvm_step X6.here [X6.here.top, hx, (hb hby at_49)]
    show Steps p.tables e below (T6.setTop (mkF m 51 #[.val (.int p1), .val (.int p2), .val (.int p3), .val (.int (0 : Int32)), .val (.ref w4), .val (.int (0 : Int32)), .val (.double (FP.i2d p2)), .second, .val (.double (FP.i2d p3)), .second, .val (.double (FP.dneg (FP.i2d p2))), .second, .unset, .unset, .unset, .unset] [(.double (FP.i2d p3)), (.ref w4)])) _
    refine st7.trans ?_
    show Steps p.tables e below (T7.setTop (mkF m 54 #[.val (.int p1), .val (.int p2), .val (.int p3), .val (.int (0 : Int32)), .val (.ref w4), .val (.int (0 : Int32)), .val (.double (FP.i2d p2)), .second, .val (.double (FP.i2d p3)), .second, .val (.double (FP.dneg (FP.i2d p2))), .second, .unset, .unset, .unset, .unset] [(.double (FP.dneg (FP.i2d p3)))])) _
    jvm_step X7.here [X7.here.top, hx, (hb hby at_54)]
    refine ⟨#[.val (.int p1), .val (.int p2), .val (.int p3), .val (.int (0 : Int32)), .val (.ref w4), .val (.int (0 : Int32)), .val (.double (FP.i2d p2)), .second, .val (.double (FP.i2d p3)), .second, .val (.double (FP.dneg (FP.i2d p2))), .second, .val (.double (FP.dneg (FP.i2d p3))), .second, .unset, .unset], rfl, ?_⟩
    show Steps p.tables e below (T7.setTop (mkF m 56 #[.val (.int p1), .val (.int p2), .val (.int p3), .val (.int (0 : Int32)), .val (.ref w4), .val (.int (0 : Int32)), .val (.double (FP.i2d p2)), .second, .val (.double (FP.i2d p3)), .second, .val (.double (FP.dneg (FP.i2d p2))), .second, .val (.double (FP.dneg (FP.i2d p3))), .second, .unset, .unset] [])) _
    refine XS.iload X7.here hx rfl (hb hby at_56) rfl ?_
    show Steps p.tables e below (T7.setTop (mkF m 58 #[.val (.int p1), .val (.int p2), .val (.int p3), .val (.int (0 : Int32)), .val (.ref w4), .val (.int (0 : Int32)), .val (.double (FP.i2d p2)), .second, .val (.double (FP.i2d p3)), .second, .val (.double (FP.dneg (FP.i2d p2))), .second, .val (.double (FP.dneg (FP.i2d p3))), .second, .unset, .unset] [(.int (0 : Int32))])) _
    refine XS.ifYes X7.here hx rfl (pc0 := 58) (pc' := 74) rfl (hb hby at_58) rfl ((if0 _ _).trans (teq (rfl : (0 : Int32) = (0 : Int32))).1) (by decide) (by decide) ?_
    show Steps p.tables e below (T7.setTop (mkF m 74 #[.val (.int p1), .val (.int p2), .val (.int p3), .val (.int (0 : Int32)), .val (.ref w4), .val (.int (0 : Int32)), .val (.double (FP.i2d p2)), .second, .val (.double (FP.i2d p3)), .second, .val (.double (FP.dneg (FP.i2d p2))), .second, .val (.double (FP.dneg (FP.i2d p3))), .second, .unset, .unset] [])) _
    refine XS.iloadN X7.here hx rfl (hb hby at_74) rfl ?_
    show Steps p.tables e below (T7.setTop (mkF m 75 #[.val (.int p1), .val (.int p2), .val (.int p3), .val (.int (0 : Int32)), .val (.ref w4), .val (.int (0 : Int32)), .val (.double (FP.i2d p2)), .second, .val (.double (FP.i2d p3)), .second, .val (.double (FP.dneg (FP.i2d p2))), .second, .val (.double (FP.dneg (FP.i2d p3))), .second, .unset, .unset] [(.int p2)])) _
    refine XS.iloadN X7.here hx rfl (hb hby at_75) rfl ?_
    show Steps p.tables e below (T7.setTop (mkF m 76 #[.val (.int p1), .val (.int p2), .val (.int p3), .val (.int (0 : Int32)), .val (.ref w4), .val (.int (0 : Int32)), .val (.double (FP.i2d p2)), .second, .val (.double (FP.i2d p3)), .second, .val (.double (FP.dneg (FP.i2d p2))), .second, .val (.double (FP.dneg (FP.i2d p3))), .second, .unset, .unset] [(.int p3), (.int p2)])) _
    refine XS.icmpNo X7.here hx rfl (hb hby at_76) rfl (tlt hc76).2.2.2 ?_
    show Steps p.tables e below (T7.setTop (mkF m 79 #[.val (.int p1), .val (.int p2), .val (.int p3), .val (.int (0 : Int32)), .val (.ref w4), .val (.int (0 : Int32)), .val (.double (FP.i2d p2)), .second, .val (.double (FP.i2d p3)), .second, .val (.double (FP.dneg (FP.i2d p2))), .second, .val (.double (FP.dneg (FP.i2d p3))), .second, .unset, .unset] [])) _
    refine XS.iconst X7.here hx rfl (hb hby at_79) ?_
    show Steps p.tables e below (T7.setTop (mkF m 80 #[.val (.int p1), .val (.int p2), .val (.int p3), .val (.int (0 : Int32)), .val (.ref w4), .val (.int (0 : Int32)), .val (.double (FP.i2d p2)), .second, .val (.double (FP.i2d p3)), .second, .val (.double (FP.dneg (FP.i2d p2))), .second, .val (.double (FP.dneg (FP.i2d p3))), .second, .unset, .unset] [(.int (1 : Int32))])) _
    refine XS.goto X7.here hx rfl (pc0 := 80) (pc' := 84) rfl (hb hby at_80) (by decide) (by decide) ?_
    show Steps p.tables e below (T7.setTop (mkF m 84 #[.val (.int p1), .val (.int p2), .val (.int p3), .val (.int (0 : Int32)), .val (.ref w4), .val (.int (0 : Int32)), .val (.double (FP.i2d p2)), .second, .val (.double (FP.i2d p3)), .second, .val (.double (FP.dneg (FP.i2d p2))), .second, .val (.double (FP.dneg (FP.i2d p3))), .second, .unset, .unset] [(.int (1 : Int32))])) _
    refine XS.istore X7.here hx rfl (hb hby at_84) rfl (l' := #[.val (.int p1), .val (.int p2), .val (.int p3), .val (.int (0 : Int32)), .val (.ref w4), .val (.int (0 : Int32)), .val (.double (FP.i2d p2)), .second, .val (.double (FP.i2d p3)), .second, .val (.double (FP.dneg (FP.i2d p2))), .second, .val (.double (FP.dneg (FP.i2d p3))), .second, .val (.int (1 : Int32)), .unset]) rfl ?_
    show Steps p.tables e below (T7.setTop (mkF m 86 #[.val (.int p1), .val (.int p2), .val (.int p3), .val (.int (0 : Int32)), .val (.ref w4), .val (.int (0 : Int32)), .val (.double (FP.i2d p2)), .second, .val (.double (FP.i2d p3)), .second, .val (.double (FP.dneg (FP.i2d p2))), .second, .val (.double (FP.dneg (FP.i2d p3))), .second, .val (.int (1 : Int32)), .unset] [])) _
    refine XS.iload X7.here hx rfl (hb hby at_86) rfl ?_
    show Steps p.tables e below (T7.setTop (mkF m 88 #[.val (.int p1), .val (.int p2), .val (.int p3), .val (.int (0 : Int32)), .val (.ref w4), .val (.int (0 : Int32)), .val (.double (FP.i2d p2)), .second, .val (.double (FP.i2d p3)), .second, .val (.double (FP.dneg (FP.i2d p2))), .second, .val (.double (FP.dneg (FP.i2d p3))), .second, .val (.int (1 : Int32)), .unset] [(.int (0 : Int32))])) _
    refine XS.ifYes X7.here hx rfl (pc0 := 88) (pc' := 104) rfl (hb hby at_88) rfl ((if0 _ _).trans (teq (rfl : (0 : Int32) = (0 : Int32))).1) (by decide) (by decide) ?_
    show Steps p.tables e below (T7.setTop (mkF m 104 #[.val (.int p1), .val (.int p2), .val (.int p3), .val (.int (0 : Int32)), .val (.ref w4), .val (.int (0 : Int32)), .val (.double (FP.i2d p2)), .second, .val (.double (FP.i2d p3)), .second, .val (.double (FP.dneg (FP.i2d p2))), .second, .val (.double (FP.dneg (FP.i2d p3))), .second, .val (.int (1 : Int32)), .unset] [])) _
    refine XS.iloadN X7.here hx rfl (hb hby at_104) rfl ?_
    show Steps p.tables e below (T7.setTop (mkF m 105 #[.val (.int p1), .val (.int p2), .val (.int p3), .val (.int (0 : Int32)), .val (.ref w4), .val (.int (0 : Int32)), .val (.double (FP.i2d p2)), .second, .val (.double (FP.i2d p3)), .second, .val (.double (FP.dneg (FP.i2d p2))), .second, .val (.double (FP.dneg (FP.i2d p3))), .second, .val (.int (1 : Int32)), .unset] [(.int p3)])) _
    refine XS.iloadN X7.here hx rfl (hb hby at_105) rfl ?_
    show Steps p.tables e below (T7.setTop (mkF m 106 #[.val (.int p1), .val (.int p2), .val (.int p3), .val (.int (0 : Int32)), .val (.ref w4), .val (.int (0 : Int32)), .val (.double (FP.i2d p2)), .second, .val (.double (FP.i2d p3)), .second, .val (.double (FP.dneg (FP.i2d p2))), .second, .val (.double (FP.dneg (FP.i2d p3))), .second, .val (.int (1 : Int32)), .unset] [(.int p2), (.int p3)])) _
    refine XS.icmpYes X7.here hx rfl (pc0 := 106) (pc' := 113) rfl (hb hby at_106) rfl (flt hc106).2.2.2 (by decide) (by decide) ?_
    show Steps p.tables e below (T7.setTop (mkF m 113 #[.val (.int p1), .val (.int p2), .val (.int p3), .val (.int (0 : Int32)), .val (.ref w4), .val (.int (0 : Int32)), .val (.double (FP.i2d p2)), .second, .val (.double (FP.i2d p3)), .second, .val (.double (FP.dneg (FP.i2d p2))), .second, .val (.double (FP.dneg (FP.i2d p3))), .second, .val (.int (1 : Int32)), .unset] [])) _
    refine XS.iconst X7.here hx rfl (hb hby at_113) ?_
    show Steps p.tables e below (T7.setTop (mkF m 114 #[.val (.int p1), .val (.int p2), .val (.int p3), .val (.int (0 : Int32)), .val (.ref w4), .val (.int (0 : Int32)), .val (.double (FP.i2d p2)), .second, .val (.double (FP.i2d p3)), .second, .val (.double (FP.dneg (FP.i2d p2))), .second, .val (.double (FP.dneg (FP.i2d p3))), .second, .val (.int (1 : Int32)), .unset] [(.int (0 : Int32))])) _
    refine XS.istore X7.here hx rfl (hb hby at_114) rfl (l' := #[.val (.int p1), .val (.int p2), .val (.int p3), .val (.int (0 : Int32)), .val (.ref w4), .val (.int (0 : Int32)), .val (.double (FP.i2d p2)), .second, .val (.double (FP.i2d p3)), .second, .val (.double (FP.dneg (FP.i2d p2))), .second, .val (.double (FP.dneg (FP.i2d p3))), .second, .val (.int (1 : Int32)), .val (.int (0 : Int32))]) rfl ?_
    show Steps p.tables e below (T7.setTop (mkF m 116 #[.val (.int p1), .val (.int p2), .val (.int p3), .val (.int (0 : Int32)), .val (.ref w4), .val (.int (0 : Int32)), .val (.double (FP.i2d p2)), .second, .val (.double (FP.i2d p3)), .second, .val (.double (FP.dneg (FP.i2d p2))), .second, .val (.double (FP.dneg (FP.i2d p3))), .second, .val (.int (1 : Int32)), .val (.int (0 : Int32))] [])) _
    jvm_step X7.here [X7.here.top, hx, (hb hby at_116)]
    show Steps p.tables e below (T7.setTop (mkF m 118 #[.val (.int p1), .val (.int p2), .val (.int p3), .val (.int (0 : Int32)), .val (.ref w4), .val (.int (0 : Int32)), .val (.double (FP.i2d p2)), .second, .val (.double (FP.i2d p3)), .second, .val (.double (FP.dneg (FP.i2d p2))), .second, .val (.double (FP.dneg (FP.i2d p3))), .second, .val (.int (1 : Int32)), .val (.int (0 : Int32))] [(.double (FP.dneg (FP.i2d p2)))])) _
    jvm_step X7.here [X7.here.top, hx, (hb hby at_118)]
    show Steps p.tables e below (T7.setTop (mkF m 120 #[.val (.int p1), .val (.int p2), .val (.int p3), .val (.int (0 : Int32)), .val (.ref w4), .val (.int (0 : Int32)), .val (.double (FP.i2d p2)), .second, .val (.double (FP.i2d p3)), .second, .val (.double (FP.dneg (FP.i2d p2))), .second, .val (.double (FP.dneg (FP.i2d p3))), .second, .val (.int (1 : Int32)), .val (.int (0 : Int32))] [(.double (FP.dneg (FP.i2d p3))), (.double (FP.dneg (FP.i2d p2)))])) _
    jvm_step X7.here [X7.here.top, hx, (hb hby at_120)]
    show Steps p.tables e below (T7.setTop (mkF m 121 #[.val (.int p1), .val (.int p2), .val (.int p3), .val (.int (0 : Int32)), .val (.ref w4), .val (.int (0 : Int32)), .val (.double (FP.i2d p2)), .second, .val (.double (FP.i2d p3)), .second, .val (.double (FP.dneg (FP.i2d p2))), .second, .val (.double (FP.dneg (FP.i2d p3))), .second, .val (.int (1 : Int32)), .val (.int (0 : Int32))] [(.int (cmpValue (FP.dcmp (FP.dneg (FP.i2d p2)) (FP.dneg (FP.i2d p3))) .g))])) _
    refine XS.ifNo X7.here hx rfl (hb hby at_121) rfl ((if0 _ _).trans (tlt ((by rw [own_lt (own_dn (own_di p2)) (own_dn (own_di p3)) (by have := hc76; rw [Int32.lt_iff_toInt_lt] at this; omega)]; decide) : (cmpValue (FP.dcmp (FP.dneg (FP.i2d p2)) (FP.dneg (FP.i2d p3))) .g) < (0 : Int32))).2.1) ?_
    show Steps p.tables e below (T7.setTop (mkF m 124 #[.val (.int p1), .val (.int p2), .val (.int p3), .val (.int (0 : Int32)), .val (.ref w4), .val (.int (0 : Int32)), .val (.double (FP.i2d p2)), .second, .val (.double (FP.i2d p3)), .second, .val (.double (FP.dneg (FP.i2d p2))), .second, .val (.double (FP.dneg (FP.i2d p3))), .second, .val (.int (1 : Int32)), .val (.int (0 : Int32))] [])) _
    refine XS.iconst X7.here hx rfl (hb hby at_124) ?_
    show Steps p.tables e below (T7.setTop (mkF m 125 #[.val (.int p1), .val (.int p2), .val (.int p3), .val (.int (0 : Int32)), .val (.ref w4), .val (.int (0 : Int32)), .val (.double (FP.i2d p2)), .second, .val (.double (FP.i2d p3)), .second, .val (.double (FP.dneg (FP.i2d p2))), .second, .val (.double (FP.dneg (FP.i2d p3))), .second, .val (.int (1 : Int32)), .val (.int (0 : Int32))] [(.int (1 : Int32))])) _
    refine XS.goto X7.here hx rfl (pc0 := 125) (pc' := 129) rfl (hb hby at_125) (by decide) (by decide) ?_
    show Steps p.tables e below (T7.setTop (mkF m 129 #[.val (.int p1), .val (.int p2), .val (.int p3), .val (.int (0 : Int32)), .val (.ref w4), .val (.int (0 : Int32)), .val (.double (FP.i2d p2)), .second, .val (.double (FP.i2d p3)), .second, .val (.double (FP.dneg (FP.i2d p2))), .second, .val (.double (FP.dneg (FP.i2d p3))), .second, .val (.int (1 : Int32)), .val (.int (0 : Int32))] [(.int (1 : Int32))])) _
    refine XS.iload X7.here hx rfl (hb hby at_129) rfl ?_
    show Steps p.tables e below (T7.setTop (mkF m 131 #[.val (.int p1), .val (.int p2), .val (.int p3), .val (.int (0 : Int32)), .val (.ref w4), .val (.int (0 : Int32)), .val (.double (FP.i2d p2)), .second, .val (.double (FP.i2d p3)), .second, .val (.double (FP.dneg (FP.i2d p2))), .second, .val (.double (FP.dneg (FP.i2d p3))), .second, .val (.int (1 : Int32)), .val (.int (0 : Int32))] [(.int (1 : Int32)), (.int (1 : Int32))])) _
    refine XS.icmpNo X7.here hx rfl (hb hby at_131) rfl (teq (rfl : (1 : Int32) = (1 : Int32))).2 ?_
    show Steps p.tables e below (T7.setTop (mkF m 134 #[.val (.int p1), .val (.int p2), .val (.int p3), .val (.int (0 : Int32)), .val (.ref w4), .val (.int (0 : Int32)), .val (.double (FP.i2d p2)), .second, .val (.double (FP.i2d p3)), .second, .val (.double (FP.dneg (FP.i2d p2))), .second, .val (.double (FP.dneg (FP.i2d p3))), .second, .val (.int (1 : Int32)), .val (.int (0 : Int32))] [])) _
    jvm_step X7.here [X7.here.top, hx, (hb hby at_134)]
    show Steps p.tables e below (T7.setTop (mkF m 136 #[.val (.int p1), .val (.int p2), .val (.int p3), .val (.int (0 : Int32)), .val (.ref w4), .val (.int (0 : Int32)), .val (.double (FP.i2d p2)), .second, .val (.double (FP.i2d p3)), .second, .val (.double (FP.dneg (FP.i2d p2))), .second, .val (.double (FP.dneg (FP.i2d p3))), .second, .val (.int (1 : Int32)), .val (.int (0 : Int32))] [(.double (FP.dneg (FP.i2d p3)))])) _
    jvm_step X7.here [X7.here.top, hx, (hb hby at_136)]
    show Steps p.tables e below (T7.setTop (mkF m 138 #[.val (.int p1), .val (.int p2), .val (.int p3), .val (.int (0 : Int32)), .val (.ref w4), .val (.int (0 : Int32)), .val (.double (FP.i2d p2)), .second, .val (.double (FP.i2d p3)), .second, .val (.double (FP.dneg (FP.i2d p2))), .second, .val (.double (FP.dneg (FP.i2d p3))), .second, .val (.int (1 : Int32)), .val (.int (0 : Int32))] [(.double (FP.dneg (FP.i2d p2))), (.double (FP.dneg (FP.i2d p3)))])) _
    jvm_step X7.here [X7.here.top, hx, (hb hby at_138)]
    show Steps p.tables e below (T7.setTop (mkF m 139 #[.val (.int p1), .val (.int p2), .val (.int p3), .val (.int (0 : Int32)), .val (.ref w4), .val (.int (0 : Int32)), .val (.double (FP.i2d p2)), .second, .val (.double (FP.i2d p3)), .second, .val (.double (FP.dneg (FP.i2d p2))), .second, .val (.double (FP.dneg (FP.i2d p3))), .second, .val (.int (1 : Int32)), .val (.int (0 : Int32))] [(.int (cmpValue (FP.dcmp (FP.dneg (FP.i2d p3)) (FP.dneg (FP.i2d p2))) .g))])) _
    refine XS.ifYes X7.here hx rfl (pc0 := 139) (pc' := 146) rfl (hb hby at_139) rfl ((if0 _ _).trans (flt ((by rw [own_gt (own_dn (own_di p3)) (own_dn (own_di p2)) (by have := hc76; rw [Int32.lt_iff_toInt_lt] at this; omega)]; decide) : ¬ ((cmpValue (FP.dcmp (FP.dneg (FP.i2d p3)) (FP.dneg (FP.i2d p2))) .g) < (0 : Int32)))).2.1) (by decide) (by decide) ?_
    show Steps p.tables e below (T7.setTop (mkF m 146 #[.val (.int p1), .val (.int p2), .val (.int p3), .val (.int (0 : Int32)), .val (.ref w4), .val (.int (0 : Int32)), .val (.double (FP.i2d p2)), .second, .val (.double (FP.i2d p3)), .second, .val (.double (FP.dneg (FP.i2d p2))), .second, .val (.double (FP.dneg (FP.i2d p3))), .second, .val (.int (1 : Int32)), .val (.int (0 : Int32))] [])) _
    refine XS.iconst X7.here hx rfl (hb hby at_146) ?_
    show Steps p.tables e below (T7.setTop (mkF m 147 #[.val (.int p1), .val (.int p2), .val (.int p3), .val (.int (0 : Int32)), .val (.ref w4), .val (.int (0 : Int32)), .val (.double (FP.i2d p2)), .second, .val (.double (FP.i2d p3)), .second, .val (.double (FP.dneg (FP.i2d p2))), .second, .val (.double (FP.dneg (FP.i2d p3))), .second, .val (.int (1 : Int32)), .val (.int (0 : Int32))] [(.int (0 : Int32))])) _
    refine XS.iload X7.here hx rfl (hb hby at_147) rfl ?_
    show Steps p.tables e below (T7.setTop (mkF m 149 #[.val (.int p1), .val (.int p2), .val (.int p3), .val (.int (0 : Int32)), .val (.ref w4), .val (.int (0 : Int32)), .val (.double (FP.i2d p2)), .second, .val (.double (FP.i2d p3)), .second, .val (.double (FP.dneg (FP.i2d p2))), .second, .val (.double (FP.dneg (FP.i2d p3))), .second, .val (.int (1 : Int32)), .val (.int (0 : Int32))] [(.int (0 : Int32)), (.int (0 : Int32))])) _
    refine XS.icmpNo X7.here hx rfl (hb hby at_149) rfl (teq (rfl : (0 : Int32) = (0 : Int32))).2 ?_
    show Steps p.tables e below (T7.setTop (mkF m 152 #[.val (.int p1), .val (.int p2), .val (.int p3), .val (.int (0 : Int32)), .val (.ref w4), .val (.int (0 : Int32)), .val (.double (FP.i2d p2)), .second, .val (.double (FP.i2d p3)), .second, .val (.double (FP.dneg (FP.i2d p2))), .second, .val (.double (FP.dneg (FP.i2d p3))), .second, .val (.int (1 : Int32)), .val (.int (0 : Int32))] [])) _
    jvm_step X7.here [X7.here.top, hx, (hb hby at_152)]
    show Steps p.tables e below (T7.setTop (mkF m 154 #[.val (.int p1), .val (.int p2), .val (.int p3), .val (.int (0 : Int32)), .val (.ref w4), .val (.int (0 : Int32)), .val (.double (FP.i2d p2)), .second, .val (.double (FP.i2d p3)), .second, .val (.double (FP.dneg (FP.i2d p2))), .second, .val (.double (FP.dneg (FP.i2d p3))), .second, .val (.int (1 : Int32)), .val (.int (0 : Int32))] [(.double (FP.dneg (FP.i2d p2)))])) _
    jvm_step X7.here [X7.here.top, hx, (hb hby at_154)]
    show Steps p.tables e below (T7.setTop (mkF m 156 #[.val (.int p1), .val (.int p2), .val (.int p3), .val (.int (0 : Int32)), .val (.ref w4), .val (.int (0 : Int32)), .val (.double (FP.i2d p2)), .second, .val (.double (FP.i2d p3)), .second, .val (.double (FP.dneg (FP.i2d p2))), .second, .val (.double (FP.dneg (FP.i2d p3))), .second, .val (.int (1 : Int32)), .val (.int (0 : Int32))] [(.double (FP.dneg (FP.i2d p3))), (.double (FP.dneg (FP.i2d p2)))])) _
    jvm_step X7.here [X7.here.top, hx, (hb hby at_156)]
    show Steps p.tables e below (T7.setTop (mkF m 157 #[.val (.int p1), .val (.int p2), .val (.int p3), .val (.int (0 : Int32)), .val (.ref w4), .val (.int (0 : Int32)), .val (.double (FP.i2d p2)), .second, .val (.double (FP.i2d p3)), .second, .val (.double (FP.dneg (FP.i2d p2))), .second, .val (.double (FP.dneg (FP.i2d p3))), .second, .val (.int (1 : Int32)), .val (.int (0 : Int32))] [(.int (cmpValue (FP.dcmp (FP.dneg (FP.i2d p2)) (FP.dneg (FP.i2d p3))) .l))])) _
    refine XS.ifYes X7.here hx rfl (pc0 := 157) (pc' := 164) rfl (hb hby at_157) rfl ((if0 _ _).trans (feq ((by rw [own_lt (own_dn (own_di p2)) (own_dn (own_di p3)) (by have := hc76; rw [Int32.lt_iff_toInt_lt] at this; omega)]; decide) : ¬ ((cmpValue (FP.dcmp (FP.dneg (FP.i2d p2)) (FP.dneg (FP.i2d p3))) .l) = (0 : Int32)))).2) (by decide) (by decide) ?_
    show Steps p.tables e below (T7.setTop (mkF m 164 #[.val (.int p1), .val (.int p2), .val (.int p3), .val (.int (0 : Int32)), .val (.ref w4), .val (.int (0 : Int32)), .val (.double (FP.i2d p2)), .second, .val (.double (FP.i2d p3)), .second, .val (.double (FP.dneg (FP.i2d p2))), .second, .val (.double (FP.dneg (FP.i2d p3))), .second, .val (.int (1 : Int32)), .val (.int (0 : Int32))] [])) _
    refine XS.iconst X7.here hx rfl (hb hby at_164) ?_
    show Steps p.tables e below (T7.setTop (mkF m 165 #[.val (.int p1), .val (.int p2), .val (.int p3), .val (.int (0 : Int32)), .val (.ref w4), .val (.int (0 : Int32)), .val (.double (FP.i2d p2)), .second, .val (.double (FP.i2d p3)), .second, .val (.double (FP.dneg (FP.i2d p2))), .second, .val (.double (FP.dneg (FP.i2d p3))), .second, .val (.int (1 : Int32)), .val (.int (0 : Int32))] [(.int (0 : Int32))])) _
    refine XS.iloadN X7.here hx rfl (hb hby at_165) rfl ?_
    show Steps p.tables e below (T7.setTop (mkF m 166 #[.val (.int p1), .val (.int p2), .val (.int p3), .val (.int (0 : Int32)), .val (.ref w4), .val (.int (0 : Int32)), .val (.double (FP.i2d p2)), .second, .val (.double (FP.i2d p3)), .second, .val (.double (FP.dneg (FP.i2d p2))), .second, .val (.double (FP.dneg (FP.i2d p3))), .second, .val (.int (1 : Int32)), .val (.int (0 : Int32))] [(.int p2), (.int (0 : Int32))])) _
    refine XS.iloadN X7.here hx rfl (hb hby at_166) rfl ?_
    show Steps p.tables e below (T7.setTop (mkF m 167 #[.val (.int p1), .val (.int p2), .val (.int p3), .val (.int (0 : Int32)), .val (.ref w4), .val (.int (0 : Int32)), .val (.double (FP.i2d p2)), .second, .val (.double (FP.i2d p3)), .second, .val (.double (FP.dneg (FP.i2d p2))), .second, .val (.double (FP.dneg (FP.i2d p3))), .second, .val (.int (1 : Int32)), .val (.int (0 : Int32))] [(.int p3), (.int p2), (.int (0 : Int32))])) _
    refine XS.icmpYes X7.here hx rfl (pc0 := 167) (pc' := 174) rfl (hb hby at_167) rfl (feq hc167).2 (by decide) (by decide) ?_
    show Steps p.tables e below (T7.setTop (mkF m 174 #[.val (.int p1), .val (.int p2), .val (.int p3), .val (.int (0 : Int32)), .val (.ref w4), .val (.int (0 : Int32)), .val (.double (FP.i2d p2)), .second, .val (.double (FP.i2d p3)), .second, .val (.double (FP.dneg (FP.i2d p2))), .second, .val (.double (FP.dneg (FP.i2d p3))), .second, .val (.int (1 : Int32)), .val (.int (0 : Int32))] [(.int (0 : Int32))])) _
    refine XS.iconst X7.here hx rfl (hb hby at_174) ?_
    show Steps p.tables e below (T7.setTop (mkF m 175 #[.val (.int p1), .val (.int p2), .val (.int p3), .val (.int (0 : Int32)), .val (.ref w4), .val (.int (0 : Int32)), .val (.double (FP.i2d p2)), .second, .val (.double (FP.i2d p3)), .second, .val (.double (FP.dneg (FP.i2d p2))), .second, .val (.double (FP.dneg (FP.i2d p3))), .second, .val (.int (1 : Int32)), .val (.int (0 : Int32))] [(.int (0 : Int32)), (.int (0 : Int32))])) _
    refine XS.icmpNo X7.here hx rfl (hb hby at_175) rfl (teq (rfl : (0 : Int32) = (0 : Int32))).2 ?_
    show Steps p.tables e below (T7.setTop (mkF m 178 #[.val (.int p1), .val (.int p2), .val (.int p3), .val (.int (0 : Int32)), .val (.ref w4), .val (.int (0 : Int32)), .val (.double (FP.i2d p2)), .second, .val (.double (FP.i2d p3)), .second, .val (.double (FP.dneg (FP.i2d p2))), .second, .val (.double (FP.dneg (FP.i2d p3))), .second, .val (.int (1 : Int32)), .val (.int (0 : Int32))] [])) _
    refine XS.iconst X7.here hx rfl (hb hby at_178) ?_
    show Steps p.tables e below (T7.setTop (mkF m 179 #[.val (.int p1), .val (.int p2), .val (.int p3), .val (.int (0 : Int32)), .val (.ref w4), .val (.int (0 : Int32)), .val (.double (FP.i2d p2)), .second, .val (.double (FP.i2d p3)), .second, .val (.double (FP.dneg (FP.i2d p2))), .second, .val (.double (FP.dneg (FP.i2d p3))), .second, .val (.int (1 : Int32)), .val (.int (0 : Int32))] [(.int (1 : Int32))])) _
    refine XS.goto X7.here hx rfl (pc0 := 179) (pc' := 183) rfl (hb hby at_179) (by decide) (by decide) ?_
    show Steps p.tables e below (T7.setTop (mkF m 183 #[.val (.int p1), .val (.int p2), .val (.int p3), .val (.int (0 : Int32)), .val (.ref w4), .val (.int (0 : Int32)), .val (.double (FP.i2d p2)), .second, .val (.double (FP.i2d p3)), .second, .val (.double (FP.dneg (FP.i2d p2))), .second, .val (.double (FP.dneg (FP.i2d p3))), .second, .val (.int (1 : Int32)), .val (.int (0 : Int32))] [(.int (1 : Int32))])) _
    exact retN X7 hx (t := .boolean) Bd.returns (by simp) (hb hby at_183) hr
  · show Q0d Z p1 p2 p3 w4 h0 n0 _ T7.heap _
    exact ⟨rfl, N7⟩
def Q0e (Z : State) (p1 : Int32) (p2 : Int32) (p3 : Int32) (w4 : Addr) (h0 : Heap) (n0 : Nat) (v : Option Value) (h : Heap) (L : List Loc) : Prop := v = some (.int (1 : Int32)) ∧ Fr n0 L
set_option maxRecDepth 65536 in
set_option maxHeartbeats 40000000 in
theorem rm0e (l : Launch) (Z : State) (a0 : Array Value) (hw : ∀ d ∈ tables_1, d.before a0 Z = true) (ws : List Jvm.Cond) (p1 : Int32) (p2 : Int32) (p3 : Int32) (w4 : Addr) (h0 : Heap) (n0 : Nat) (Z0 : n0 ≤ h0.size) (S_ENTROPY : Sta Z h0 "com/example/upweight/upweight/Specificity" "ENTROPY" "Lcom/example/upweight/upweight/Specificity;" (.ref w4)) (E_w4 : Exa Z h0 w4 "com/example/upweight/upweight/Specificity$1") (FH : Fld Z h0 w4 "com/example/upweight/upweight/Specificity" "higherIsMoreSpecific" "Z" (.int 0)) (hc3 : (p1 &&& (1 : Int32)) = (0 : Int32)) (hc76 : ¬ (p3 < p2)) (hc106 : p2 < p3) (hc167 : ¬ (p2 = p3)) :
    MetFree l x (head1 (Jvm.Cond.code x code maxLocals ret :: ws) room_1) (fun a U => a = #[(.int p1), (.int p2), (.int p3)] ∧ Z.Warmed39 U.vm ∧ U.heap = h0) (fun _ _ _ _ _ => True) (fun _ U o U' => ∃ v L, o = .returned v ∧ Q0e Z p1 p2 p3 w4 h0 n0 v U'.heap L ∧ FrameEnd U o U' L room_1.cells room_1.slots) := by
  refine MetFree.of_bodySF (plainFor_of_name pn_0) hisR ?_
  intro p e s m args below meth c s₁ Bd hml0 hP hK
  obtain ⟨rfl, hZ, hh⟩ := hP
  have hx := Bd.exec
  have hby := Bd.bytes
  have hml : c.maxLocals = 16 := hml0
  have hown : s.vm.findClass "com/example/upweight/upweight/SpecificityLeastSpecificFirstKeyPinLaw" = some m.cls := findClass_of_methodNamed Bd.named
  have hnm := (name_of_methodNamed Bd.named Bd.method).1
  have X0 : Stand p l e room_1 s m #[(.int p1), (.int p2), (.int p3)] below meth c s₁ [] 0 0 := Stand.of_body Bd
  have e0 : s₁.heap = h0 := by rw [← hh, Bd.state]; rfl
  have N0 := Fr.nil n0
  have pre0 : ∀ t, Steps p.tables e below (s₁.setTop (mkF m 0 #[.val (.int p1), .val (.int p2), .val (.int p3), .unset, .unset, .unset, .unset, .unset, .unset, .unset, .unset, .unset, .unset, .unset, .unset, .unset] [])) t → Steps p.tables e below (s₁.setTop (entryFrame m #[(.int p1), (.int p2), (.int p3)] maxLocals)) t := fun t k => castTop (ef_0 m p1 p2 p3) k
  obtain ⟨T5, X5, e5, st5⟩ := getS2 X0 hx hZ hown (host := "") (Or.inl (hw _ (List.mem_of_getElem? (i := 0) rfl))) Via.refl e0 S_ENTROPY (g := (mkF m 22 #[.val (.int p1), .val (.int p2), .val (.int p3), .val (.int (0 : Int32)), .unset, .unset, .unset, .unset, .unset, .unset, .unset, .unset, .unset, .unset, .unset, .unset] [])) rfl (hb hby at_22)
  obtain ⟨cq6, kq6, q6a, q6b, q6c⟩ := isOf hZ e5 E_w4
  obtain ⟨_, _, ⟨T6, L6, k6, n6⟩, -, X6, ⟨Lc6, hQ6, l6, y6, z6⟩, st6⟩ := X5.virtualBack hx (y := (⟨"com/example/upweight/upweight/Specificity", "leastSpecificFirstKey", "(D)D"⟩ : MethodName)) (z := (⟨"com/example/upweight/upweight/Specificity", "leastSpecificFirstKey", "(D)D"⟩ : MethodName)) hown (mvT hZ (hw _ (List.mem_of_getElem? (i := 3) rfl))) (mvT hZ (hw _ (List.mem_of_getElem? (i := 4) rfl))) (notFace_of_selects (args := #[]) (mvT hZ (hw _ (List.mem_of_getElem? (i := 6) rfl)))) (mvT hZ (hw _ (List.mem_of_getElem? (i := 6) rfl))) (mvT hZ (hw _ (List.mem_of_getElem? (i := 5) rfl))) (by decide) (backOf (W := 0) (rm1t l Z a0 hw [] w4 (FP.i2d p2) 0 h0 n0 Z0 FH rfl) hZ (hw _ (List.mem_of_getElem? (i := 7) rfl)) (hw _ (List.mem_of_getElem? (i := 1) rfl)) (by decide) (by decide)) q6a q6c (g := (mkF m 42 #[.val (.int p1), .val (.int p2), .val (.int p3), .val (.int (0 : Int32)), .val (.ref w4), .val (.int (0 : Int32)), .val (.double (FP.i2d p2)), .second, .val (.double (FP.i2d p3)), .second, .unset, .unset, .unset, .unset, .unset, .unset] [(.double (FP.i2d p2)), (.ref w4)])) rfl (by rw [hml]; rfl) (Steps.refl _) (argsL := [(.double (FP.i2d p2))]) (rest := []) (lenOf pd_0_0 rfl) rfl (by show 2 * 0 + _ ≤ _; exact Nat.le_of_eq rfl) (hb hby at_42) (fun _ _ => ⟨rfl, e5, (by decide : 0 + 0 ≤ _), (by decide : 0 + 0 ≤ _)⟩)
  dsimp only [Pt.U, Pt.locs, Pt.cells, Pt.slots] at X6 l6 y6 z6 st6 hQ6
  subst l6 y6 z6
  obtain ⟨rfl, N6q, q6⟩ := hQ6
  have K6 : Keep h0 T6.heap [] := by rw [q6]; exact Keep.refl _ _
  have N6 := Fr.app N0 N6q
  obtain ⟨cq7, kq7, q7a, q7b, q7c⟩ := isOf hZ rfl (E_w4.keep K6)
  obtain ⟨_, _, ⟨T7, L7, k7, n7⟩, -, X7, ⟨Lc7, hQ7, l7, y7, z7⟩, st7⟩ := X6.virtualBack hx (y := (⟨"com/example/upweight/upweight/Specificity", "leastSpecificFirstKey", "(D)D"⟩ : MethodName)) (z := (⟨"com/example/upweight/upweight/Specificity", "leastSpecificFirstKey", "(D)D"⟩ : MethodName)) hown (mvT hZ (hw _ (List.mem_of_getElem? (i := 3) rfl))) (mvT hZ (hw _ (List.mem_of_getElem? (i := 4) rfl))) (notFace_of_selects (args := #[]) (mvT hZ (hw _ (List.mem_of_getElem? (i := 6) rfl)))) (mvT hZ (hw _ (List.mem_of_getElem? (i := 6) rfl))) (mvT hZ (hw _ (List.mem_of_getElem? (i := 5) rfl))) (by decide) (backOf (W := 0) (rm1t l Z a0 hw [] w4 (FP.i2d p3) 0 T6.heap n0 (by rw [q6]; exact Z0) (by rw [q6]; exact FH) rfl) hZ (hw _ (List.mem_of_getElem? (i := 7) rfl)) (hw _ (List.mem_of_getElem? (i := 1) rfl)) (by decide) (by decide)) q7a q7c (g := (mkF m 51 #[.val (.int p1), .val (.int p2), .val (.int p3), .val (.int (0 : Int32)), .val (.ref w4), .val (.int (0 : Int32)), .val (.double (FP.i2d p2)), .second, .val (.double (FP.i2d p3)), .second, .val (.double (FP.dneg (FP.i2d p2))), .second, .unset, .unset, .unset, .unset] [(.double (FP.i2d p3)), (.ref w4)])) rfl (by rw [hml]; rfl) (Steps.refl _) (argsL := [(.double (FP.i2d p3))]) (rest := []) (lenOf pd_0_0 rfl) rfl (by show 2 * 0 + _ ≤ _; exact Nat.le_of_eq rfl) (hb hby at_51) (fun _ _ => ⟨rfl, rfl, (by decide : 0 + 0 ≤ _), (by decide : 0 + 0 ≤ _)⟩)
  dsimp only [Pt.U, Pt.locs, Pt.cells, Pt.slots] at X7 l7 y7 z7 st7 hQ7
  subst l7 y7 z7
  obtain ⟨rfl, N7q, q7⟩ := hQ7
  have N7 := Fr.app N6 N7q
  obtain ⟨fs, hr, hrun, hended, hW, hsame⟩ := X7.leave (v := some (.int (1 : Int32))) (fun h => by rw [Bd.returns] at h; cases h)
  refine ⟨_, _, pre0 _ ?_, hrun, hended, _, _, rfl, ?_, ⟨_, rfl⟩, hW, hsame.mono (by decide) (by decide)⟩
  · show Steps p.tables e below (s₁.setTop (mkF m 0 #[.val (.int p1), .val (.int p2), .val (.int p3), .unset, .unset, .unset, .unset, .unset, .unset, .unset, .unset, .unset, .unset, .unset, .unset, .unset] [])) _
    refine XS.iloadN X0.here hx rfl (hb hby at_0) rfl ?_
    show Steps p.tables e below (s₁.setTop (mkF m 1 #[.val (.int p1), .val (.int p2), .val (.int p3), .unset, .unset, .unset, .unset, .unset, .unset, .unset, .unset, .unset, .unset, .unset, .unset, .unset] [(.int p1)])) _
    refine XS.iconst X0.here hx rfl (hb hby at_1) ?_
    show Steps p.tables e below (s₁.setTop (mkF m 2 #[.val (.int p1), .val (.int p2), .val (.int p3), .unset, .unset, .unset, .unset, .unset, .unset, .unset, .unset, .unset, .unset, .unset, .unset, .unset] [(.int (1 : Int32)), (.int p1)])) _
    refine XS.iand X0.here hx rfl (hb hby at_2) rfl ?_
    show Steps p.tables e below (s₁.setTop (mkF m 3 #[.val (.int p1), .val (.int p2), .val (.int p3), .unset, .unset, .unset, .unset, .unset, .unset, .unset, .unset, .unset, .unset, .unset, .unset, .unset] [(.int (p1 &&& (1 : Int32)))])) _
    refine XS.ifYes X0.here hx rfl (pc0 := 3) (pc' := 10) rfl (hb hby at_3) rfl ((if0 _ _).trans (teq hc3).1) (by decide) (by decide) ?_
    show Steps p.tables e below (s₁.setTop (mkF m 10 #[.val (.int p1), .val (.int p2), .val (.int p3), .unset, .unset, .unset, .unset, .unset, .unset, .unset, .unset, .unset, .unset, .unset, .unset, .unset] [])) _
    refine XS.iconst X0.here hx rfl (hb hby at_10) ?_
    show Steps p.tables e below (s₁.setTop (mkF m 11 #[.val (.int p1), .val (.int p2), .val (.int p3), .unset, .unset, .unset, .unset, .unset, .unset, .unset, .unset, .unset, .unset, .unset, .unset, .unset] [(.int (0 : Int32))])) _
    refine XS.istoreN X0.here hx rfl (hb hby at_11) rfl (l' := #[.val (.int p1), .val (.int p2), .val (.int p3), .val (.int (0 : Int32)), .unset, .unset, .unset, .unset, .unset, .unset, .unset, .unset, .unset, .unset, .unset, .unset]) rfl ?_
    show Steps p.tables e below (s₁.setTop (mkF m 12 #[.val (.int p1), .val (.int p2), .val (.int p3), .val (.int (0 : Int32)), .unset, .unset, .unset, .unset, .unset, .unset, .unset, .unset, .unset, .unset, .unset, .unset] [])) _
    refine XS.iloadN X0.here hx rfl (hb hby at_12) rfl ?_
    show Steps p.tables e below (s₁.setTop (mkF m 13 #[.val (.int p1), .val (.int p2), .val (.int p3), .val (.int (0 : Int32)), .unset, .unset, .unset, .unset, .unset, .unset, .unset, .unset, .unset, .unset, .unset, .unset] [(.int (0 : Int32))])) _
    refine XS.ifYes X0.here hx rfl (pc0 := 13) (pc' := 22) rfl (hb hby at_13) rfl ((if0 _ _).trans (teq (rfl : (0 : Int32) = (0 : Int32))).1) (by decide) (by decide) ?_
    show Steps p.tables e below (s₁.setTop (mkF m 22 #[.val (.int p1), .val (.int p2), .val (.int p3), .val (.int (0 : Int32)), .unset, .unset, .unset, .unset, .unset, .unset, .unset, .unset, .unset, .unset, .unset, .unset] [])) _
    refine st5 _ ?_
    show Steps p.tables e below (T5.setTop (mkF m 25 #[.val (.int p1), .val (.int p2), .val (.int p3), .val (.int (0 : Int32)), .unset, .unset, .unset, .unset, .unset, .unset, .unset, .unset, .unset, .unset, .unset, .unset] [(.ref w4)])) _
    refine XS.astore X5.here hx rfl (hb hby at_25) rfl rfl (l' := #[.val (.int p1), .val (.int p2), .val (.int p3), .val (.int (0 : Int32)), .val (.ref w4), .unset, .unset, .unset, .unset, .unset, .unset, .unset, .unset, .unset, .unset, .unset]) rfl ?_
    show Steps p.tables e below (T5.setTop (mkF m 27 #[.val (.int p1), .val (.int p2), .val (.int p3), .val (.int (0 : Int32)), .val (.ref w4), .unset, .unset, .unset, .unset, .unset, .unset, .unset, .unset, .unset, .unset, .unset] [])) _
    refine XS.iloadN X5.here hx rfl (hb hby at_27) rfl ?_
    show Steps p.tables e below (T5.setTop (mkF m 28 #[.val (.int p1), .val (.int p2), .val (.int p3), .val (.int (0 : Int32)), .val (.ref w4), .unset, .unset, .unset, .unset, .unset, .unset, .unset, .unset, .unset, .unset, .unset] [(.int (0 : Int32))])) _
    refine XS.istore X5.here hx rfl (hb hby at_28) rfl (l' := #[.val (.int p1), .val (.int p2), .val (.int p3), .val (.int (0 : Int32)), .val (.ref w4), .val (.int (0 : Int32)), .unset, .unset, .unset, .unset, .unset, .unset, .unset, .unset, .unset, .unset]) rfl ?_
    show Steps p.tables e below (T5.setTop (mkF m 30 #[.val (.int p1), .val (.int p2), .val (.int p3), .val (.int (0 : Int32)), .val (.ref w4), .val (.int (0 : Int32)), .unset, .unset, .unset, .unset, .unset, .unset, .unset, .unset, .unset, .unset] [])) _
    refine XS.iloadN X5.here hx rfl (hb hby at_30) rfl ?_
    show Steps p.tables e below (T5.setTop (mkF m 31 #[.val (.int p1), .val (.int p2), .val (.int p3), .val (.int (0 : Int32)), .val (.ref w4), .val (.int (0 : Int32)), .unset, .unset, .unset, .unset, .unset, .unset, .unset, .unset, .unset, .unset] [(.int p2)])) _
    jvm_step X5.here [X5.here.top, hx, (hb hby at_31)]
    show Steps p.tables e below (T5.setTop (mkF m 32 #[.val (.int p1), .val (.int p2), .val (.int p3), .val (.int (0 : Int32)), .val (.ref w4), .val (.int (0 : Int32)), .unset, .unset, .unset, .unset, .unset, .unset, .unset, .unset, .unset, .unset] [(.double (FP.i2d p2))])) _
    jvm_step X5.here [X5.here.top, hx, (hb hby at_32)]
    refine ⟨#[.val (.int p1), .val (.int p2), .val (.int p3), .val (.int (0 : Int32)), .val (.ref w4), .val (.int (0 : Int32)), .val (.double (FP.i2d p2)), .second, .unset, .unset, .unset, .unset, .unset, .unset, .unset, .unset], rfl, ?_⟩
    show Steps p.tables e below (T5.setTop (mkF m 34 #[.val (.int p1), .val (.int p2), .val (.int p3), .val (.int (0 : Int32)), .val (.ref w4), .val (.int (0 : Int32)), .val (.double (FP.i2d p2)), .second, .unset, .unset, .unset, .unset, .unset, .unset, .unset, .unset] [])) _
    refine XS.iloadN X5.here hx rfl (hb hby at_34) rfl ?_
    show Steps p.tables e below (T5.setTop (mkF m 35 #[.val (.int p1), .val (.int p2), .val (.int p3), .val (.int (0 : Int32)), .val (.ref w4), .val (.int (0 : Int32)), .val (.double (FP.i2d p2)), .second, .unset, .unset, .unset, .unset, .unset, .unset, .unset, .unset] [(.int p3)])) _
    jvm_step X5.here [X5.here.top, hx, (hb hby at_35)]
    show Steps p.tables e below (T5.setTop (mkF m 36 #[.val (.int p1), .val (.int p2), .val (.int p3), .val (.int (0 : Int32)), .val (.ref w4), .val (.int (0 : Int32)), .val (.double (FP.i2d p2)), .second, .unset, .unset, .unset, .unset, .unset, .unset, .unset, .unset] [(.double (FP.i2d p3))])) _
    jvm_step X5.here [X5.here.top, hx, (hb hby at_36)]
    refine ⟨#[.val (.int p1), .val (.int p2), .val (.int p3), .val (.int (0 : Int32)), .val (.ref w4), .val (.int (0 : Int32)), .val (.double (FP.i2d p2)), .second, .val (.double (FP.i2d p3)), .second, .unset, .unset, .unset, .unset, .unset, .unset], rfl, ?_⟩
    show Steps p.tables e below (T5.setTop (mkF m 38 #[.val (.int p1), .val (.int p2), .val (.int p3), .val (.int (0 : Int32)), .val (.ref w4), .val (.int (0 : Int32)), .val (.double (FP.i2d p2)), .second, .val (.double (FP.i2d p3)), .second, .unset, .unset, .unset, .unset, .unset, .unset] [])) _
    refine XS.aload X5.here hx rfl (hb hby at_38) rfl rfl ?_
    show Steps p.tables e below (T5.setTop (mkF m 40 #[.val (.int p1), .val (.int p2), .val (.int p3), .val (.int (0 : Int32)), .val (.ref w4), .val (.int (0 : Int32)), .val (.double (FP.i2d p2)), .second, .val (.double (FP.i2d p3)), .second, .unset, .unset, .unset, .unset, .unset, .unset] [(.ref w4)])) _
    jvm_step X5.here [X5.here.top, hx, (hb hby at_40)]
    show Steps p.tables e below (T5.setTop (mkF m 42 #[.val (.int p1), .val (.int p2), .val (.int p3), .val (.int (0 : Int32)), .val (.ref w4), .val (.int (0 : Int32)), .val (.double (FP.i2d p2)), .second, .val (.double (FP.i2d p3)), .second, .unset, .unset, .unset, .unset, .unset, .unset] [(.double (FP.i2d p2)), (.ref w4)])) _
    refine st6.trans ?_
    show Steps p.tables e below (T6.setTop (mkF m 45 #[.val (.int p1), .val (.int p2), .val (.int p3), .val (.int (0 : Int32)), .val (.ref w4), .val (.int (0 : Int32)), .val (.double (FP.i2d p2)), .second, .val (.double (FP.i2d p3)), .second, .unset, .unset, .unset, .unset, .unset, .unset] [(.double (FP.dneg (FP.i2d p2)))])) _
    jvm_step X6.here [X6.here.top, hx, (hb hby at_45)]
    refine ⟨#[.val (.int p1), .val (.int p2), .val (.int p3), .val (.int (0 : Int32)), .val (.ref w4), .val (.int (0 : Int32)), .val (.double (FP.i2d p2)), .second, .val (.double (FP.i2d p3)), .second, .val (.double (FP.dneg (FP.i2d p2))), .second, .unset, .unset, .unset, .unset], rfl, ?_⟩
    show Steps p.tables e below (T6.setTop (mkF m 47 #[.val (.int p1), .val (.int p2), .val (.int p3), .val (.int (0 : Int32)), .val (.ref w4), .val (.int (0 : Int32)), .val (.double (FP.i2d p2)), .second, .val (.double (FP.i2d p3)), .second, .val (.double (FP.dneg (FP.i2d p2))), .second, .unset, .unset, .unset, .unset] [])) _
    refine XS.aload X6.here hx rfl (hb hby at_47) rfl rfl ?_
    show Steps p.tables e below (T6.setTop (mkF m 49 #[.val (.int p1), .val (.int p2), .val (.int p3), .val (.int (0 : Int32)), .val (.ref w4), .val (.int (0 : Int32)), .val (.double (FP.i2d p2)), .second, .val (.double (FP.i2d p3)), .second, .val (.double (FP.dneg (FP.i2d p2))), .second, .unset, .unset, .unset, .unset] [(.ref w4)])) _
    jvm_step X6.here [X6.here.top, hx, (hb hby at_49)]
    show Steps p.tables e below (T6.setTop (mkF m 51 #[.val (.int p1), .val (.int p2), .val (.int p3), .val (.int (0 : Int32)), .val (.ref w4), .val (.int (0 : Int32)), .val (.double (FP.i2d p2)), .second, .val (.double (FP.i2d p3)), .second, .val (.double (FP.dneg (FP.i2d p2))), .second, .unset, .unset, .unset, .unset] [(.double (FP.i2d p3)), (.ref w4)])) _
    refine st7.trans ?_
    show Steps p.tables e below (T7.setTop (mkF m 54 #[.val (.int p1), .val (.int p2), .val (.int p3), .val (.int (0 : Int32)), .val (.ref w4), .val (.int (0 : Int32)), .val (.double (FP.i2d p2)), .second, .val (.double (FP.i2d p3)), .second, .val (.double (FP.dneg (FP.i2d p2))), .second, .unset, .unset, .unset, .unset] [(.double (FP.dneg (FP.i2d p3)))])) _
    jvm_step X7.here [X7.here.top, hx, (hb hby at_54)]
    refine ⟨#[.val (.int p1), .val (.int p2), .val (.int p3), .val (.int (0 : Int32)), .val (.ref w4), .val (.int (0 : Int32)), .val (.double (FP.i2d p2)), .second, .val (.double (FP.i2d p3)), .second, .val (.double (FP.dneg (FP.i2d p2))), .second, .val (.double (FP.dneg (FP.i2d p3))), .second, .unset, .unset], rfl, ?_⟩
    show Steps p.tables e below (T7.setTop (mkF m 56 #[.val (.int p1), .val (.int p2), .val (.int p3), .val (.int (0 : Int32)), .val (.ref w4), .val (.int (0 : Int32)), .val (.double (FP.i2d p2)), .second, .val (.double (FP.i2d p3)), .second, .val (.double (FP.dneg (FP.i2d p2))), .second, .val (.double (FP.dneg (FP.i2d p3))), .second, .unset, .unset] [])) _
    refine XS.iload X7.here hx rfl (hb hby at_56) rfl ?_
    show Steps p.tables e below (T7.setTop (mkF m 58 #[.val (.int p1), .val (.int p2), .val (.int p3), .val (.int (0 : Int32)), .val (.ref w4), .val (.int (0 : Int32)), .val (.double (FP.i2d p2)), .second, .val (.double (FP.i2d p3)), .second, .val (.double (FP.dneg (FP.i2d p2))), .second, .val (.double (FP.dneg (FP.i2d p3))), .second, .unset, .unset] [(.int (0 : Int32))])) _
    refine XS.ifYes X7.here hx rfl (pc0 := 58) (pc' := 74) rfl (hb hby at_58) rfl ((if0 _ _).trans (teq (rfl : (0 : Int32) = (0 : Int32))).1) (by decide) (by decide) ?_
    show Steps p.tables e below (T7.setTop (mkF m 74 #[.val (.int p1), .val (.int p2), .val (.int p3), .val (.int (0 : Int32)), .val (.ref w4), .val (.int (0 : Int32)), .val (.double (FP.i2d p2)), .second, .val (.double (FP.i2d p3)), .second, .val (.double (FP.dneg (FP.i2d p2))), .second, .val (.double (FP.dneg (FP.i2d p3))), .second, .unset, .unset] [])) _
    refine XS.iloadN X7.here hx rfl (hb hby at_74) rfl ?_
    show Steps p.tables e below (T7.setTop (mkF m 75 #[.val (.int p1), .val (.int p2), .val (.int p3), .val (.int (0 : Int32)), .val (.ref w4), .val (.int (0 : Int32)), .val (.double (FP.i2d p2)), .second, .val (.double (FP.i2d p3)), .second, .val (.double (FP.dneg (FP.i2d p2))), .second, .val (.double (FP.dneg (FP.i2d p3))), .second, .unset, .unset] [(.int p2)])) _
    refine XS.iloadN X7.here hx rfl (hb hby at_75) rfl ?_
    show Steps p.tables e below (T7.setTop (mkF m 76 #[.val (.int p1), .val (.int p2), .val (.int p3), .val (.int (0 : Int32)), .val (.ref w4), .val (.int (0 : Int32)), .val (.double (FP.i2d p2)), .second, .val (.double (FP.i2d p3)), .second, .val (.double (FP.dneg (FP.i2d p2))), .second, .val (.double (FP.dneg (FP.i2d p3))), .second, .unset, .unset] [(.int p3), (.int p2)])) _
    refine XS.icmpYes X7.here hx rfl (pc0 := 76) (pc' := 83) rfl (hb hby at_76) rfl (flt hc76).2.2.2 (by decide) (by decide) ?_
    show Steps p.tables e below (T7.setTop (mkF m 83 #[.val (.int p1), .val (.int p2), .val (.int p3), .val (.int (0 : Int32)), .val (.ref w4), .val (.int (0 : Int32)), .val (.double (FP.i2d p2)), .second, .val (.double (FP.i2d p3)), .second, .val (.double (FP.dneg (FP.i2d p2))), .second, .val (.double (FP.dneg (FP.i2d p3))), .second, .unset, .unset] [])) _
    refine XS.iconst X7.here hx rfl (hb hby at_83) ?_
    show Steps p.tables e below (T7.setTop (mkF m 84 #[.val (.int p1), .val (.int p2), .val (.int p3), .val (.int (0 : Int32)), .val (.ref w4), .val (.int (0 : Int32)), .val (.double (FP.i2d p2)), .second, .val (.double (FP.i2d p3)), .second, .val (.double (FP.dneg (FP.i2d p2))), .second, .val (.double (FP.dneg (FP.i2d p3))), .second, .unset, .unset] [(.int (0 : Int32))])) _
    refine XS.istore X7.here hx rfl (hb hby at_84) rfl (l' := #[.val (.int p1), .val (.int p2), .val (.int p3), .val (.int (0 : Int32)), .val (.ref w4), .val (.int (0 : Int32)), .val (.double (FP.i2d p2)), .second, .val (.double (FP.i2d p3)), .second, .val (.double (FP.dneg (FP.i2d p2))), .second, .val (.double (FP.dneg (FP.i2d p3))), .second, .val (.int (0 : Int32)), .unset]) rfl ?_
    show Steps p.tables e below (T7.setTop (mkF m 86 #[.val (.int p1), .val (.int p2), .val (.int p3), .val (.int (0 : Int32)), .val (.ref w4), .val (.int (0 : Int32)), .val (.double (FP.i2d p2)), .second, .val (.double (FP.i2d p3)), .second, .val (.double (FP.dneg (FP.i2d p2))), .second, .val (.double (FP.dneg (FP.i2d p3))), .second, .val (.int (0 : Int32)), .unset] [])) _
    refine XS.iload X7.here hx rfl (hb hby at_86) rfl ?_
    show Steps p.tables e below (T7.setTop (mkF m 88 #[.val (.int p1), .val (.int p2), .val (.int p3), .val (.int (0 : Int32)), .val (.ref w4), .val (.int (0 : Int32)), .val (.double (FP.i2d p2)), .second, .val (.double (FP.i2d p3)), .second, .val (.double (FP.dneg (FP.i2d p2))), .second, .val (.double (FP.dneg (FP.i2d p3))), .second, .val (.int (0 : Int32)), .unset] [(.int (0 : Int32))])) _
    refine XS.ifYes X7.here hx rfl (pc0 := 88) (pc' := 104) rfl (hb hby at_88) rfl ((if0 _ _).trans (teq (rfl : (0 : Int32) = (0 : Int32))).1) (by decide) (by decide) ?_
    show Steps p.tables e below (T7.setTop (mkF m 104 #[.val (.int p1), .val (.int p2), .val (.int p3), .val (.int (0 : Int32)), .val (.ref w4), .val (.int (0 : Int32)), .val (.double (FP.i2d p2)), .second, .val (.double (FP.i2d p3)), .second, .val (.double (FP.dneg (FP.i2d p2))), .second, .val (.double (FP.dneg (FP.i2d p3))), .second, .val (.int (0 : Int32)), .unset] [])) _
    refine XS.iloadN X7.here hx rfl (hb hby at_104) rfl ?_
    show Steps p.tables e below (T7.setTop (mkF m 105 #[.val (.int p1), .val (.int p2), .val (.int p3), .val (.int (0 : Int32)), .val (.ref w4), .val (.int (0 : Int32)), .val (.double (FP.i2d p2)), .second, .val (.double (FP.i2d p3)), .second, .val (.double (FP.dneg (FP.i2d p2))), .second, .val (.double (FP.dneg (FP.i2d p3))), .second, .val (.int (0 : Int32)), .unset] [(.int p3)])) _
    refine XS.iloadN X7.here hx rfl (hb hby at_105) rfl ?_
    show Steps p.tables e below (T7.setTop (mkF m 106 #[.val (.int p1), .val (.int p2), .val (.int p3), .val (.int (0 : Int32)), .val (.ref w4), .val (.int (0 : Int32)), .val (.double (FP.i2d p2)), .second, .val (.double (FP.i2d p3)), .second, .val (.double (FP.dneg (FP.i2d p2))), .second, .val (.double (FP.dneg (FP.i2d p3))), .second, .val (.int (0 : Int32)), .unset] [(.int p2), (.int p3)])) _
    refine XS.icmpNo X7.here hx rfl (hb hby at_106) rfl (tlt hc106).2.2.2 ?_
    show Steps p.tables e below (T7.setTop (mkF m 109 #[.val (.int p1), .val (.int p2), .val (.int p3), .val (.int (0 : Int32)), .val (.ref w4), .val (.int (0 : Int32)), .val (.double (FP.i2d p2)), .second, .val (.double (FP.i2d p3)), .second, .val (.double (FP.dneg (FP.i2d p2))), .second, .val (.double (FP.dneg (FP.i2d p3))), .second, .val (.int (0 : Int32)), .unset] [])) _
    refine XS.iconst X7.here hx rfl (hb hby at_109) ?_
    show Steps p.tables e below (T7.setTop (mkF m 110 #[.val (.int p1), .val (.int p2), .val (.int p3), .val (.int (0 : Int32)), .val (.ref w4), .val (.int (0 : Int32)), .val (.double (FP.i2d p2)), .second, .val (.double (FP.i2d p3)), .second, .val (.double (FP.dneg (FP.i2d p2))), .second, .val (.double (FP.dneg (FP.i2d p3))), .second, .val (.int (0 : Int32)), .unset] [(.int (1 : Int32))])) _
    refine XS.goto X7.here hx rfl (pc0 := 110) (pc' := 114) rfl (hb hby at_110) (by decide) (by decide) ?_
    show Steps p.tables e below (T7.setTop (mkF m 114 #[.val (.int p1), .val (.int p2), .val (.int p3), .val (.int (0 : Int32)), .val (.ref w4), .val (.int (0 : Int32)), .val (.double (FP.i2d p2)), .second, .val (.double (FP.i2d p3)), .second, .val (.double (FP.dneg (FP.i2d p2))), .second, .val (.double (FP.dneg (FP.i2d p3))), .second, .val (.int (0 : Int32)), .unset] [(.int (1 : Int32))])) _
    refine XS.istore X7.here hx rfl (hb hby at_114) rfl (l' := #[.val (.int p1), .val (.int p2), .val (.int p3), .val (.int (0 : Int32)), .val (.ref w4), .val (.int (0 : Int32)), .val (.double (FP.i2d p2)), .second, .val (.double (FP.i2d p3)), .second, .val (.double (FP.dneg (FP.i2d p2))), .second, .val (.double (FP.dneg (FP.i2d p3))), .second, .val (.int (0 : Int32)), .val (.int (1 : Int32))]) rfl ?_
    show Steps p.tables e below (T7.setTop (mkF m 116 #[.val (.int p1), .val (.int p2), .val (.int p3), .val (.int (0 : Int32)), .val (.ref w4), .val (.int (0 : Int32)), .val (.double (FP.i2d p2)), .second, .val (.double (FP.i2d p3)), .second, .val (.double (FP.dneg (FP.i2d p2))), .second, .val (.double (FP.dneg (FP.i2d p3))), .second, .val (.int (0 : Int32)), .val (.int (1 : Int32))] [])) _
    jvm_step X7.here [X7.here.top, hx, (hb hby at_116)]
    show Steps p.tables e below (T7.setTop (mkF m 118 #[.val (.int p1), .val (.int p2), .val (.int p3), .val (.int (0 : Int32)), .val (.ref w4), .val (.int (0 : Int32)), .val (.double (FP.i2d p2)), .second, .val (.double (FP.i2d p3)), .second, .val (.double (FP.dneg (FP.i2d p2))), .second, .val (.double (FP.dneg (FP.i2d p3))), .second, .val (.int (0 : Int32)), .val (.int (1 : Int32))] [(.double (FP.dneg (FP.i2d p2)))])) _
    jvm_step X7.here [X7.here.top, hx, (hb hby at_118)]
    show Steps p.tables e below (T7.setTop (mkF m 120 #[.val (.int p1), .val (.int p2), .val (.int p3), .val (.int (0 : Int32)), .val (.ref w4), .val (.int (0 : Int32)), .val (.double (FP.i2d p2)), .second, .val (.double (FP.i2d p3)), .second, .val (.double (FP.dneg (FP.i2d p2))), .second, .val (.double (FP.dneg (FP.i2d p3))), .second, .val (.int (0 : Int32)), .val (.int (1 : Int32))] [(.double (FP.dneg (FP.i2d p3))), (.double (FP.dneg (FP.i2d p2)))])) _
    jvm_step X7.here [X7.here.top, hx, (hb hby at_120)]
    show Steps p.tables e below (T7.setTop (mkF m 121 #[.val (.int p1), .val (.int p2), .val (.int p3), .val (.int (0 : Int32)), .val (.ref w4), .val (.int (0 : Int32)), .val (.double (FP.i2d p2)), .second, .val (.double (FP.i2d p3)), .second, .val (.double (FP.dneg (FP.i2d p2))), .second, .val (.double (FP.dneg (FP.i2d p3))), .second, .val (.int (0 : Int32)), .val (.int (1 : Int32))] [(.int (cmpValue (FP.dcmp (FP.dneg (FP.i2d p2)) (FP.dneg (FP.i2d p3))) .g))])) _
    refine XS.ifYes X7.here hx rfl (pc0 := 121) (pc' := 128) rfl (hb hby at_121) rfl ((if0 _ _).trans (flt ((by rw [own_gt (own_dn (own_di p2)) (own_dn (own_di p3)) (by have := hc106; rw [Int32.lt_iff_toInt_lt] at this; omega)]; decide) : ¬ ((cmpValue (FP.dcmp (FP.dneg (FP.i2d p2)) (FP.dneg (FP.i2d p3))) .g) < (0 : Int32)))).2.1) (by decide) (by decide) ?_
    show Steps p.tables e below (T7.setTop (mkF m 128 #[.val (.int p1), .val (.int p2), .val (.int p3), .val (.int (0 : Int32)), .val (.ref w4), .val (.int (0 : Int32)), .val (.double (FP.i2d p2)), .second, .val (.double (FP.i2d p3)), .second, .val (.double (FP.dneg (FP.i2d p2))), .second, .val (.double (FP.dneg (FP.i2d p3))), .second, .val (.int (0 : Int32)), .val (.int (1 : Int32))] [])) _
    refine XS.iconst X7.here hx rfl (hb hby at_128) ?_
    show Steps p.tables e below (T7.setTop (mkF m 129 #[.val (.int p1), .val (.int p2), .val (.int p3), .val (.int (0 : Int32)), .val (.ref w4), .val (.int (0 : Int32)), .val (.double (FP.i2d p2)), .second, .val (.double (FP.i2d p3)), .second, .val (.double (FP.dneg (FP.i2d p2))), .second, .val (.double (FP.dneg (FP.i2d p3))), .second, .val (.int (0 : Int32)), .val (.int (1 : Int32))] [(.int (0 : Int32))])) _
    refine XS.iload X7.here hx rfl (hb hby at_129) rfl ?_
    show Steps p.tables e below (T7.setTop (mkF m 131 #[.val (.int p1), .val (.int p2), .val (.int p3), .val (.int (0 : Int32)), .val (.ref w4), .val (.int (0 : Int32)), .val (.double (FP.i2d p2)), .second, .val (.double (FP.i2d p3)), .second, .val (.double (FP.dneg (FP.i2d p2))), .second, .val (.double (FP.dneg (FP.i2d p3))), .second, .val (.int (0 : Int32)), .val (.int (1 : Int32))] [(.int (0 : Int32)), (.int (0 : Int32))])) _
    refine XS.icmpNo X7.here hx rfl (hb hby at_131) rfl (teq (rfl : (0 : Int32) = (0 : Int32))).2 ?_
    show Steps p.tables e below (T7.setTop (mkF m 134 #[.val (.int p1), .val (.int p2), .val (.int p3), .val (.int (0 : Int32)), .val (.ref w4), .val (.int (0 : Int32)), .val (.double (FP.i2d p2)), .second, .val (.double (FP.i2d p3)), .second, .val (.double (FP.dneg (FP.i2d p2))), .second, .val (.double (FP.dneg (FP.i2d p3))), .second, .val (.int (0 : Int32)), .val (.int (1 : Int32))] [])) _
    jvm_step X7.here [X7.here.top, hx, (hb hby at_134)]
    show Steps p.tables e below (T7.setTop (mkF m 136 #[.val (.int p1), .val (.int p2), .val (.int p3), .val (.int (0 : Int32)), .val (.ref w4), .val (.int (0 : Int32)), .val (.double (FP.i2d p2)), .second, .val (.double (FP.i2d p3)), .second, .val (.double (FP.dneg (FP.i2d p2))), .second, .val (.double (FP.dneg (FP.i2d p3))), .second, .val (.int (0 : Int32)), .val (.int (1 : Int32))] [(.double (FP.dneg (FP.i2d p3)))])) _
    jvm_step X7.here [X7.here.top, hx, (hb hby at_136)]
    show Steps p.tables e below (T7.setTop (mkF m 138 #[.val (.int p1), .val (.int p2), .val (.int p3), .val (.int (0 : Int32)), .val (.ref w4), .val (.int (0 : Int32)), .val (.double (FP.i2d p2)), .second, .val (.double (FP.i2d p3)), .second, .val (.double (FP.dneg (FP.i2d p2))), .second, .val (.double (FP.dneg (FP.i2d p3))), .second, .val (.int (0 : Int32)), .val (.int (1 : Int32))] [(.double (FP.dneg (FP.i2d p2))), (.double (FP.dneg (FP.i2d p3)))])) _
    jvm_step X7.here [X7.here.top, hx, (hb hby at_138)]
    show Steps p.tables e below (T7.setTop (mkF m 139 #[.val (.int p1), .val (.int p2), .val (.int p3), .val (.int (0 : Int32)), .val (.ref w4), .val (.int (0 : Int32)), .val (.double (FP.i2d p2)), .second, .val (.double (FP.i2d p3)), .second, .val (.double (FP.dneg (FP.i2d p2))), .second, .val (.double (FP.dneg (FP.i2d p3))), .second, .val (.int (0 : Int32)), .val (.int (1 : Int32))] [(.int (cmpValue (FP.dcmp (FP.dneg (FP.i2d p3)) (FP.dneg (FP.i2d p2))) .g))])) _
    refine XS.ifNo X7.here hx rfl (hb hby at_139) rfl ((if0 _ _).trans (tlt ((by rw [own_lt (own_dn (own_di p3)) (own_dn (own_di p2)) (by have := hc106; rw [Int32.lt_iff_toInt_lt] at this; omega)]; decide) : (cmpValue (FP.dcmp (FP.dneg (FP.i2d p3)) (FP.dneg (FP.i2d p2))) .g) < (0 : Int32))).2.1) ?_
    show Steps p.tables e below (T7.setTop (mkF m 142 #[.val (.int p1), .val (.int p2), .val (.int p3), .val (.int (0 : Int32)), .val (.ref w4), .val (.int (0 : Int32)), .val (.double (FP.i2d p2)), .second, .val (.double (FP.i2d p3)), .second, .val (.double (FP.dneg (FP.i2d p2))), .second, .val (.double (FP.dneg (FP.i2d p3))), .second, .val (.int (0 : Int32)), .val (.int (1 : Int32))] [])) _
    refine XS.iconst X7.here hx rfl (hb hby at_142) ?_
    show Steps p.tables e below (T7.setTop (mkF m 143 #[.val (.int p1), .val (.int p2), .val (.int p3), .val (.int (0 : Int32)), .val (.ref w4), .val (.int (0 : Int32)), .val (.double (FP.i2d p2)), .second, .val (.double (FP.i2d p3)), .second, .val (.double (FP.dneg (FP.i2d p2))), .second, .val (.double (FP.dneg (FP.i2d p3))), .second, .val (.int (0 : Int32)), .val (.int (1 : Int32))] [(.int (1 : Int32))])) _
    refine XS.goto X7.here hx rfl (pc0 := 143) (pc' := 147) rfl (hb hby at_143) (by decide) (by decide) ?_
    show Steps p.tables e below (T7.setTop (mkF m 147 #[.val (.int p1), .val (.int p2), .val (.int p3), .val (.int (0 : Int32)), .val (.ref w4), .val (.int (0 : Int32)), .val (.double (FP.i2d p2)), .second, .val (.double (FP.i2d p3)), .second, .val (.double (FP.dneg (FP.i2d p2))), .second, .val (.double (FP.dneg (FP.i2d p3))), .second, .val (.int (0 : Int32)), .val (.int (1 : Int32))] [(.int (1 : Int32))])) _
    refine XS.iload X7.here hx rfl (hb hby at_147) rfl ?_
    show Steps p.tables e below (T7.setTop (mkF m 149 #[.val (.int p1), .val (.int p2), .val (.int p3), .val (.int (0 : Int32)), .val (.ref w4), .val (.int (0 : Int32)), .val (.double (FP.i2d p2)), .second, .val (.double (FP.i2d p3)), .second, .val (.double (FP.dneg (FP.i2d p2))), .second, .val (.double (FP.dneg (FP.i2d p3))), .second, .val (.int (0 : Int32)), .val (.int (1 : Int32))] [(.int (1 : Int32)), (.int (1 : Int32))])) _
    refine XS.icmpNo X7.here hx rfl (hb hby at_149) rfl (teq (rfl : (1 : Int32) = (1 : Int32))).2 ?_
    show Steps p.tables e below (T7.setTop (mkF m 152 #[.val (.int p1), .val (.int p2), .val (.int p3), .val (.int (0 : Int32)), .val (.ref w4), .val (.int (0 : Int32)), .val (.double (FP.i2d p2)), .second, .val (.double (FP.i2d p3)), .second, .val (.double (FP.dneg (FP.i2d p2))), .second, .val (.double (FP.dneg (FP.i2d p3))), .second, .val (.int (0 : Int32)), .val (.int (1 : Int32))] [])) _
    jvm_step X7.here [X7.here.top, hx, (hb hby at_152)]
    show Steps p.tables e below (T7.setTop (mkF m 154 #[.val (.int p1), .val (.int p2), .val (.int p3), .val (.int (0 : Int32)), .val (.ref w4), .val (.int (0 : Int32)), .val (.double (FP.i2d p2)), .second, .val (.double (FP.i2d p3)), .second, .val (.double (FP.dneg (FP.i2d p2))), .second, .val (.double (FP.dneg (FP.i2d p3))), .second, .val (.int (0 : Int32)), .val (.int (1 : Int32))] [(.double (FP.dneg (FP.i2d p2)))])) _
    jvm_step X7.here [X7.here.top, hx, (hb hby at_154)]
    show Steps p.tables e below (T7.setTop (mkF m 156 #[.val (.int p1), .val (.int p2), .val (.int p3), .val (.int (0 : Int32)), .val (.ref w4), .val (.int (0 : Int32)), .val (.double (FP.i2d p2)), .second, .val (.double (FP.i2d p3)), .second, .val (.double (FP.dneg (FP.i2d p2))), .second, .val (.double (FP.dneg (FP.i2d p3))), .second, .val (.int (0 : Int32)), .val (.int (1 : Int32))] [(.double (FP.dneg (FP.i2d p3))), (.double (FP.dneg (FP.i2d p2)))])) _
    jvm_step X7.here [X7.here.top, hx, (hb hby at_156)]
    show Steps p.tables e below (T7.setTop (mkF m 157 #[.val (.int p1), .val (.int p2), .val (.int p3), .val (.int (0 : Int32)), .val (.ref w4), .val (.int (0 : Int32)), .val (.double (FP.i2d p2)), .second, .val (.double (FP.i2d p3)), .second, .val (.double (FP.dneg (FP.i2d p2))), .second, .val (.double (FP.dneg (FP.i2d p3))), .second, .val (.int (0 : Int32)), .val (.int (1 : Int32))] [(.int (cmpValue (FP.dcmp (FP.dneg (FP.i2d p2)) (FP.dneg (FP.i2d p3))) .l))])) _
    refine XS.ifYes X7.here hx rfl (pc0 := 157) (pc' := 164) rfl (hb hby at_157) rfl ((if0 _ _).trans (feq ((by rw [own_gt (own_dn (own_di p2)) (own_dn (own_di p3)) (by have := hc106; rw [Int32.lt_iff_toInt_lt] at this; omega)]; decide) : ¬ ((cmpValue (FP.dcmp (FP.dneg (FP.i2d p2)) (FP.dneg (FP.i2d p3))) .l) = (0 : Int32)))).2) (by decide) (by decide) ?_
    show Steps p.tables e below (T7.setTop (mkF m 164 #[.val (.int p1), .val (.int p2), .val (.int p3), .val (.int (0 : Int32)), .val (.ref w4), .val (.int (0 : Int32)), .val (.double (FP.i2d p2)), .second, .val (.double (FP.i2d p3)), .second, .val (.double (FP.dneg (FP.i2d p2))), .second, .val (.double (FP.dneg (FP.i2d p3))), .second, .val (.int (0 : Int32)), .val (.int (1 : Int32))] [])) _
    refine XS.iconst X7.here hx rfl (hb hby at_164) ?_
    show Steps p.tables e below (T7.setTop (mkF m 165 #[.val (.int p1), .val (.int p2), .val (.int p3), .val (.int (0 : Int32)), .val (.ref w4), .val (.int (0 : Int32)), .val (.double (FP.i2d p2)), .second, .val (.double (FP.i2d p3)), .second, .val (.double (FP.dneg (FP.i2d p2))), .second, .val (.double (FP.dneg (FP.i2d p3))), .second, .val (.int (0 : Int32)), .val (.int (1 : Int32))] [(.int (0 : Int32))])) _
    refine XS.iloadN X7.here hx rfl (hb hby at_165) rfl ?_
    show Steps p.tables e below (T7.setTop (mkF m 166 #[.val (.int p1), .val (.int p2), .val (.int p3), .val (.int (0 : Int32)), .val (.ref w4), .val (.int (0 : Int32)), .val (.double (FP.i2d p2)), .second, .val (.double (FP.i2d p3)), .second, .val (.double (FP.dneg (FP.i2d p2))), .second, .val (.double (FP.dneg (FP.i2d p3))), .second, .val (.int (0 : Int32)), .val (.int (1 : Int32))] [(.int p2), (.int (0 : Int32))])) _
    refine XS.iloadN X7.here hx rfl (hb hby at_166) rfl ?_
    show Steps p.tables e below (T7.setTop (mkF m 167 #[.val (.int p1), .val (.int p2), .val (.int p3), .val (.int (0 : Int32)), .val (.ref w4), .val (.int (0 : Int32)), .val (.double (FP.i2d p2)), .second, .val (.double (FP.i2d p3)), .second, .val (.double (FP.dneg (FP.i2d p2))), .second, .val (.double (FP.dneg (FP.i2d p3))), .second, .val (.int (0 : Int32)), .val (.int (1 : Int32))] [(.int p3), (.int p2), (.int (0 : Int32))])) _
    refine XS.icmpYes X7.here hx rfl (pc0 := 167) (pc' := 174) rfl (hb hby at_167) rfl (feq hc167).2 (by decide) (by decide) ?_
    show Steps p.tables e below (T7.setTop (mkF m 174 #[.val (.int p1), .val (.int p2), .val (.int p3), .val (.int (0 : Int32)), .val (.ref w4), .val (.int (0 : Int32)), .val (.double (FP.i2d p2)), .second, .val (.double (FP.i2d p3)), .second, .val (.double (FP.dneg (FP.i2d p2))), .second, .val (.double (FP.dneg (FP.i2d p3))), .second, .val (.int (0 : Int32)), .val (.int (1 : Int32))] [(.int (0 : Int32))])) _
    refine XS.iconst X7.here hx rfl (hb hby at_174) ?_
    show Steps p.tables e below (T7.setTop (mkF m 175 #[.val (.int p1), .val (.int p2), .val (.int p3), .val (.int (0 : Int32)), .val (.ref w4), .val (.int (0 : Int32)), .val (.double (FP.i2d p2)), .second, .val (.double (FP.i2d p3)), .second, .val (.double (FP.dneg (FP.i2d p2))), .second, .val (.double (FP.dneg (FP.i2d p3))), .second, .val (.int (0 : Int32)), .val (.int (1 : Int32))] [(.int (0 : Int32)), (.int (0 : Int32))])) _
    refine XS.icmpNo X7.here hx rfl (hb hby at_175) rfl (teq (rfl : (0 : Int32) = (0 : Int32))).2 ?_
    show Steps p.tables e below (T7.setTop (mkF m 178 #[.val (.int p1), .val (.int p2), .val (.int p3), .val (.int (0 : Int32)), .val (.ref w4), .val (.int (0 : Int32)), .val (.double (FP.i2d p2)), .second, .val (.double (FP.i2d p3)), .second, .val (.double (FP.dneg (FP.i2d p2))), .second, .val (.double (FP.dneg (FP.i2d p3))), .second, .val (.int (0 : Int32)), .val (.int (1 : Int32))] [])) _
    refine XS.iconst X7.here hx rfl (hb hby at_178) ?_
    show Steps p.tables e below (T7.setTop (mkF m 179 #[.val (.int p1), .val (.int p2), .val (.int p3), .val (.int (0 : Int32)), .val (.ref w4), .val (.int (0 : Int32)), .val (.double (FP.i2d p2)), .second, .val (.double (FP.i2d p3)), .second, .val (.double (FP.dneg (FP.i2d p2))), .second, .val (.double (FP.dneg (FP.i2d p3))), .second, .val (.int (0 : Int32)), .val (.int (1 : Int32))] [(.int (1 : Int32))])) _
    refine XS.goto X7.here hx rfl (pc0 := 179) (pc' := 183) rfl (hb hby at_179) (by decide) (by decide) ?_
    show Steps p.tables e below (T7.setTop (mkF m 183 #[.val (.int p1), .val (.int p2), .val (.int p3), .val (.int (0 : Int32)), .val (.ref w4), .val (.int (0 : Int32)), .val (.double (FP.i2d p2)), .second, .val (.double (FP.i2d p3)), .second, .val (.double (FP.dneg (FP.i2d p2))), .second, .val (.double (FP.dneg (FP.i2d p3))), .second, .val (.int (0 : Int32)), .val (.int (1 : Int32))] [(.int (1 : Int32))])) _
    exact retN X7 hx (t := .boolean) Bd.returns (by simp) (hb hby at_183) hr
  · show Q0e Z p1 p2 p3 w4 h0 n0 _ T7.heap _
    exact ⟨rfl, N7⟩
def Q0f (Z : State) (p1 : Int32) (p2 : Int32) (p3 : Int32) (w4 : Addr) (h0 : Heap) (n0 : Nat) (v : Option Value) (h : Heap) (L : List Loc) : Prop := v = some (.int (1 : Int32)) ∧ Fr n0 L
set_option maxRecDepth 65536 in
set_option maxHeartbeats 40000000 in
theorem rm0f (l : Launch) (Z : State) (a0 : Array Value) (hw : ∀ d ∈ tables_1, d.before a0 Z = true) (ws : List Jvm.Cond) (p1 : Int32) (p2 : Int32) (p3 : Int32) (w4 : Addr) (h0 : Heap) (n0 : Nat) (Z0 : n0 ≤ h0.size) (S_ENTROPY : Sta Z h0 "com/example/upweight/upweight/Specificity" "ENTROPY" "Lcom/example/upweight/upweight/Specificity;" (.ref w4)) (E_w4 : Exa Z h0 w4 "com/example/upweight/upweight/Specificity$1") (FH : Fld Z h0 w4 "com/example/upweight/upweight/Specificity" "higherIsMoreSpecific" "Z" (.int 0)) (hc3 : (p1 &&& (1 : Int32)) = (0 : Int32)) (hc76 : ¬ (p3 < p2)) (hc106 : ¬ (p2 < p3)) (hc167 : p2 = p3) :
    MetFree l x (head1 (Jvm.Cond.code x code maxLocals ret :: ws) room_1) (fun a U => a = #[(.int p1), (.int p2), (.int p3)] ∧ Z.Warmed39 U.vm ∧ U.heap = h0) (fun _ _ _ _ _ => True) (fun _ U o U' => ∃ v L, o = .returned v ∧ Q0f Z p1 p2 p3 w4 h0 n0 v U'.heap L ∧ FrameEnd U o U' L room_1.cells room_1.slots) := by
  refine MetFree.of_bodySF (plainFor_of_name pn_0) hisR ?_
  intro p e s m args below meth c s₁ Bd hml0 hP hK
  obtain ⟨rfl, hZ, hh⟩ := hP
  have hx := Bd.exec
  have hby := Bd.bytes
  have hml : c.maxLocals = 16 := hml0
  have hown : s.vm.findClass "com/example/upweight/upweight/SpecificityLeastSpecificFirstKeyPinLaw" = some m.cls := findClass_of_methodNamed Bd.named
  have hnm := (name_of_methodNamed Bd.named Bd.method).1
  have X0 : Stand p l e room_1 s m #[(.int p1), (.int p2), (.int p3)] below meth c s₁ [] 0 0 := Stand.of_body Bd
  have e0 : s₁.heap = h0 := by rw [← hh, Bd.state]; rfl
  have N0 := Fr.nil n0
  have pre0 : ∀ t, Steps p.tables e below (s₁.setTop (mkF m 0 #[.val (.int p1), .val (.int p2), .val (.int p3), .unset, .unset, .unset, .unset, .unset, .unset, .unset, .unset, .unset, .unset, .unset, .unset, .unset] [])) t → Steps p.tables e below (s₁.setTop (entryFrame m #[(.int p1), (.int p2), (.int p3)] maxLocals)) t := fun t k => castTop (ef_0 m p1 p2 p3) k
  obtain ⟨T5, X5, e5, st5⟩ := getS2 X0 hx hZ hown (host := "") (Or.inl (hw _ (List.mem_of_getElem? (i := 0) rfl))) Via.refl e0 S_ENTROPY (g := (mkF m 22 #[.val (.int p1), .val (.int p2), .val (.int p3), .val (.int (0 : Int32)), .unset, .unset, .unset, .unset, .unset, .unset, .unset, .unset, .unset, .unset, .unset, .unset] [])) rfl (hb hby at_22)
  obtain ⟨cq6, kq6, q6a, q6b, q6c⟩ := isOf hZ e5 E_w4
  obtain ⟨_, _, ⟨T6, L6, k6, n6⟩, -, X6, ⟨Lc6, hQ6, l6, y6, z6⟩, st6⟩ := X5.virtualBack hx (y := (⟨"com/example/upweight/upweight/Specificity", "leastSpecificFirstKey", "(D)D"⟩ : MethodName)) (z := (⟨"com/example/upweight/upweight/Specificity", "leastSpecificFirstKey", "(D)D"⟩ : MethodName)) hown (mvT hZ (hw _ (List.mem_of_getElem? (i := 3) rfl))) (mvT hZ (hw _ (List.mem_of_getElem? (i := 4) rfl))) (notFace_of_selects (args := #[]) (mvT hZ (hw _ (List.mem_of_getElem? (i := 6) rfl)))) (mvT hZ (hw _ (List.mem_of_getElem? (i := 6) rfl))) (mvT hZ (hw _ (List.mem_of_getElem? (i := 5) rfl))) (by decide) (backOf (W := 0) (rm1t l Z a0 hw [] w4 (FP.i2d p2) 0 h0 n0 Z0 FH rfl) hZ (hw _ (List.mem_of_getElem? (i := 7) rfl)) (hw _ (List.mem_of_getElem? (i := 1) rfl)) (by decide) (by decide)) q6a q6c (g := (mkF m 42 #[.val (.int p1), .val (.int p2), .val (.int p3), .val (.int (0 : Int32)), .val (.ref w4), .val (.int (0 : Int32)), .val (.double (FP.i2d p2)), .second, .val (.double (FP.i2d p3)), .second, .unset, .unset, .unset, .unset, .unset, .unset] [(.double (FP.i2d p2)), (.ref w4)])) rfl (by rw [hml]; rfl) (Steps.refl _) (argsL := [(.double (FP.i2d p2))]) (rest := []) (lenOf pd_0_0 rfl) rfl (by show 2 * 0 + _ ≤ _; exact Nat.le_of_eq rfl) (hb hby at_42) (fun _ _ => ⟨rfl, e5, (by decide : 0 + 0 ≤ _), (by decide : 0 + 0 ≤ _)⟩)
  dsimp only [Pt.U, Pt.locs, Pt.cells, Pt.slots] at X6 l6 y6 z6 st6 hQ6
  subst l6 y6 z6
  obtain ⟨rfl, N6q, q6⟩ := hQ6
  have K6 : Keep h0 T6.heap [] := by rw [q6]; exact Keep.refl _ _
  have N6 := Fr.app N0 N6q
  obtain ⟨cq7, kq7, q7a, q7b, q7c⟩ := isOf hZ rfl (E_w4.keep K6)
  obtain ⟨_, _, ⟨T7, L7, k7, n7⟩, -, X7, ⟨Lc7, hQ7, l7, y7, z7⟩, st7⟩ := X6.virtualBack hx (y := (⟨"com/example/upweight/upweight/Specificity", "leastSpecificFirstKey", "(D)D"⟩ : MethodName)) (z := (⟨"com/example/upweight/upweight/Specificity", "leastSpecificFirstKey", "(D)D"⟩ : MethodName)) hown (mvT hZ (hw _ (List.mem_of_getElem? (i := 3) rfl))) (mvT hZ (hw _ (List.mem_of_getElem? (i := 4) rfl))) (notFace_of_selects (args := #[]) (mvT hZ (hw _ (List.mem_of_getElem? (i := 6) rfl)))) (mvT hZ (hw _ (List.mem_of_getElem? (i := 6) rfl))) (mvT hZ (hw _ (List.mem_of_getElem? (i := 5) rfl))) (by decide) (backOf (W := 0) (rm1t l Z a0 hw [] w4 (FP.i2d p3) 0 T6.heap n0 (by rw [q6]; exact Z0) (by rw [q6]; exact FH) rfl) hZ (hw _ (List.mem_of_getElem? (i := 7) rfl)) (hw _ (List.mem_of_getElem? (i := 1) rfl)) (by decide) (by decide)) q7a q7c (g := (mkF m 51 #[.val (.int p1), .val (.int p2), .val (.int p3), .val (.int (0 : Int32)), .val (.ref w4), .val (.int (0 : Int32)), .val (.double (FP.i2d p2)), .second, .val (.double (FP.i2d p3)), .second, .val (.double (FP.dneg (FP.i2d p2))), .second, .unset, .unset, .unset, .unset] [(.double (FP.i2d p3)), (.ref w4)])) rfl (by rw [hml]; rfl) (Steps.refl _) (argsL := [(.double (FP.i2d p3))]) (rest := []) (lenOf pd_0_0 rfl) rfl (by show 2 * 0 + _ ≤ _; exact Nat.le_of_eq rfl) (hb hby at_51) (fun _ _ => ⟨rfl, rfl, (by decide : 0 + 0 ≤ _), (by decide : 0 + 0 ≤ _)⟩)
  dsimp only [Pt.U, Pt.locs, Pt.cells, Pt.slots] at X7 l7 y7 z7 st7 hQ7
  subst l7 y7 z7
  obtain ⟨rfl, N7q, q7⟩ := hQ7
  have N7 := Fr.app N6 N7q
  obtain ⟨fs, hr, hrun, hended, hW, hsame⟩ := X7.leave (v := some (.int (1 : Int32))) (fun h => by rw [Bd.returns] at h; cases h)
  refine ⟨_, _, pre0 _ ?_, hrun, hended, _, _, rfl, ?_, ⟨_, rfl⟩, hW, hsame.mono (by decide) (by decide)⟩
  · show Steps p.tables e below (s₁.setTop (mkF m 0 #[.val (.int p1), .val (.int p2), .val (.int p3), .unset, .unset, .unset, .unset, .unset, .unset, .unset, .unset, .unset, .unset, .unset, .unset, .unset] [])) _
    refine XS.iloadN X0.here hx rfl (hb hby at_0) rfl ?_
    show Steps p.tables e below (s₁.setTop (mkF m 1 #[.val (.int p1), .val (.int p2), .val (.int p3), .unset, .unset, .unset, .unset, .unset, .unset, .unset, .unset, .unset, .unset, .unset, .unset, .unset] [(.int p1)])) _
    refine XS.iconst X0.here hx rfl (hb hby at_1) ?_
    show Steps p.tables e below (s₁.setTop (mkF m 2 #[.val (.int p1), .val (.int p2), .val (.int p3), .unset, .unset, .unset, .unset, .unset, .unset, .unset, .unset, .unset, .unset, .unset, .unset, .unset] [(.int (1 : Int32)), (.int p1)])) _
    refine XS.iand X0.here hx rfl (hb hby at_2) rfl ?_
    show Steps p.tables e below (s₁.setTop (mkF m 3 #[.val (.int p1), .val (.int p2), .val (.int p3), .unset, .unset, .unset, .unset, .unset, .unset, .unset, .unset, .unset, .unset, .unset, .unset, .unset] [(.int (p1 &&& (1 : Int32)))])) _
    refine XS.ifYes X0.here hx rfl (pc0 := 3) (pc' := 10) rfl (hb hby at_3) rfl ((if0 _ _).trans (teq hc3).1) (by decide) (by decide) ?_
    show Steps p.tables e below (s₁.setTop (mkF m 10 #[.val (.int p1), .val (.int p2), .val (.int p3), .unset, .unset, .unset, .unset, .unset, .unset, .unset, .unset, .unset, .unset, .unset, .unset, .unset] [])) _
    refine XS.iconst X0.here hx rfl (hb hby at_10) ?_
    show Steps p.tables e below (s₁.setTop (mkF m 11 #[.val (.int p1), .val (.int p2), .val (.int p3), .unset, .unset, .unset, .unset, .unset, .unset, .unset, .unset, .unset, .unset, .unset, .unset, .unset] [(.int (0 : Int32))])) _
    refine XS.istoreN X0.here hx rfl (hb hby at_11) rfl (l' := #[.val (.int p1), .val (.int p2), .val (.int p3), .val (.int (0 : Int32)), .unset, .unset, .unset, .unset, .unset, .unset, .unset, .unset, .unset, .unset, .unset, .unset]) rfl ?_
    show Steps p.tables e below (s₁.setTop (mkF m 12 #[.val (.int p1), .val (.int p2), .val (.int p3), .val (.int (0 : Int32)), .unset, .unset, .unset, .unset, .unset, .unset, .unset, .unset, .unset, .unset, .unset, .unset] [])) _
    refine XS.iloadN X0.here hx rfl (hb hby at_12) rfl ?_
    show Steps p.tables e below (s₁.setTop (mkF m 13 #[.val (.int p1), .val (.int p2), .val (.int p3), .val (.int (0 : Int32)), .unset, .unset, .unset, .unset, .unset, .unset, .unset, .unset, .unset, .unset, .unset, .unset] [(.int (0 : Int32))])) _
    refine XS.ifYes X0.here hx rfl (pc0 := 13) (pc' := 22) rfl (hb hby at_13) rfl ((if0 _ _).trans (teq (rfl : (0 : Int32) = (0 : Int32))).1) (by decide) (by decide) ?_
    show Steps p.tables e below (s₁.setTop (mkF m 22 #[.val (.int p1), .val (.int p2), .val (.int p3), .val (.int (0 : Int32)), .unset, .unset, .unset, .unset, .unset, .unset, .unset, .unset, .unset, .unset, .unset, .unset] [])) _
    refine st5 _ ?_
    show Steps p.tables e below (T5.setTop (mkF m 25 #[.val (.int p1), .val (.int p2), .val (.int p3), .val (.int (0 : Int32)), .unset, .unset, .unset, .unset, .unset, .unset, .unset, .unset, .unset, .unset, .unset, .unset] [(.ref w4)])) _
    refine XS.astore X5.here hx rfl (hb hby at_25) rfl rfl (l' := #[.val (.int p1), .val (.int p2), .val (.int p3), .val (.int (0 : Int32)), .val (.ref w4), .unset, .unset, .unset, .unset, .unset, .unset, .unset, .unset, .unset, .unset, .unset]) rfl ?_
    show Steps p.tables e below (T5.setTop (mkF m 27 #[.val (.int p1), .val (.int p2), .val (.int p3), .val (.int (0 : Int32)), .val (.ref w4), .unset, .unset, .unset, .unset, .unset, .unset, .unset, .unset, .unset, .unset, .unset] [])) _
    refine XS.iloadN X5.here hx rfl (hb hby at_27) rfl ?_
    show Steps p.tables e below (T5.setTop (mkF m 28 #[.val (.int p1), .val (.int p2), .val (.int p3), .val (.int (0 : Int32)), .val (.ref w4), .unset, .unset, .unset, .unset, .unset, .unset, .unset, .unset, .unset, .unset, .unset] [(.int (0 : Int32))])) _
    refine XS.istore X5.here hx rfl (hb hby at_28) rfl (l' := #[.val (.int p1), .val (.int p2), .val (.int p3), .val (.int (0 : Int32)), .val (.ref w4), .val (.int (0 : Int32)), .unset, .unset, .unset, .unset, .unset, .unset, .unset, .unset, .unset, .unset]) rfl ?_
    show Steps p.tables e below (T5.setTop (mkF m 30 #[.val (.int p1), .val (.int p2), .val (.int p3), .val (.int (0 : Int32)), .val (.ref w4), .val (.int (0 : Int32)), .unset, .unset, .unset, .unset, .unset, .unset, .unset, .unset, .unset, .unset] [])) _
    refine XS.iloadN X5.here hx rfl (hb hby at_30) rfl ?_
    show Steps p.tables e below (T5.setTop (mkF m 31 #[.val (.int p1), .val (.int p2), .val (.int p3), .val (.int (0 : Int32)), .val (.ref w4), .val (.int (0 : Int32)), .unset, .unset, .unset, .unset, .unset, .unset, .unset, .unset, .unset, .unset] [(.int p2)])) _
    jvm_step X5.here [X5.here.top, hx, (hb hby at_31)]
    show Steps p.tables e below (T5.setTop (mkF m 32 #[.val (.int p1), .val (.int p2), .val (.int p3), .val (.int (0 : Int32)), .val (.ref w4), .val (.int (0 : Int32)), .unset, .unset, .unset, .unset, .unset, .unset, .unset, .unset, .unset, .unset] [(.double (FP.i2d p2))])) _
    jvm_step X5.here [X5.here.top, hx, (hb hby at_32)]
    refine ⟨#[.val (.int p1), .val (.int p2), .val (.int p3), .val (.int (0 : Int32)), .val (.ref w4), .val (.int (0 : Int32)), .val (.double (FP.i2d p2)), .second, .unset, .unset, .unset, .unset, .unset, .unset, .unset, .unset], rfl, ?_⟩
    show Steps p.tables e below (T5.setTop (mkF m 34 #[.val (.int p1), .val (.int p2), .val (.int p3), .val (.int (0 : Int32)), .val (.ref w4), .val (.int (0 : Int32)), .val (.double (FP.i2d p2)), .second, .unset, .unset, .unset, .unset, .unset, .unset, .unset, .unset] [])) _
    refine XS.iloadN X5.here hx rfl (hb hby at_34) rfl ?_
    show Steps p.tables e below (T5.setTop (mkF m 35 #[.val (.int p1), .val (.int p2), .val (.int p3), .val (.int (0 : Int32)), .val (.ref w4), .val (.int (0 : Int32)), .val (.double (FP.i2d p2)), .second, .unset, .unset, .unset, .unset, .unset, .unset, .unset, .unset] [(.int p3)])) _
    jvm_step X5.here [X5.here.top, hx, (hb hby at_35)]
    show Steps p.tables e below (T5.setTop (mkF m 36 #[.val (.int p1), .val (.int p2), .val (.int p3), .val (.int (0 : Int32)), .val (.ref w4), .val (.int (0 : Int32)), .val (.double (FP.i2d p2)), .second, .unset, .unset, .unset, .unset, .unset, .unset, .unset, .unset] [(.double (FP.i2d p3))])) _
    jvm_step X5.here [X5.here.top, hx, (hb hby at_36)]
    refine ⟨#[.val (.int p1), .val (.int p2), .val (.int p3), .val (.int (0 : Int32)), .val (.ref w4), .val (.int (0 : Int32)), .val (.double (FP.i2d p2)), .second, .val (.double (FP.i2d p3)), .second, .unset, .unset, .unset, .unset, .unset, .unset], rfl, ?_⟩
    show Steps p.tables e below (T5.setTop (mkF m 38 #[.val (.int p1), .val (.int p2), .val (.int p3), .val (.int (0 : Int32)), .val (.ref w4), .val (.int (0 : Int32)), .val (.double (FP.i2d p2)), .second, .val (.double (FP.i2d p3)), .second, .unset, .unset, .unset, .unset, .unset, .unset] [])) _
    refine XS.aload X5.here hx rfl (hb hby at_38) rfl rfl ?_
    show Steps p.tables e below (T5.setTop (mkF m 40 #[.val (.int p1), .val (.int p2), .val (.int p3), .val (.int (0 : Int32)), .val (.ref w4), .val (.int (0 : Int32)), .val (.double (FP.i2d p2)), .second, .val (.double (FP.i2d p3)), .second, .unset, .unset, .unset, .unset, .unset, .unset] [(.ref w4)])) _
    jvm_step X5.here [X5.here.top, hx, (hb hby at_40)]
    show Steps p.tables e below (T5.setTop (mkF m 42 #[.val (.int p1), .val (.int p2), .val (.int p3), .val (.int (0 : Int32)), .val (.ref w4), .val (.int (0 : Int32)), .val (.double (FP.i2d p2)), .second, .val (.double (FP.i2d p3)), .second, .unset, .unset, .unset, .unset, .unset, .unset] [(.double (FP.i2d p2)), (.ref w4)])) _
    refine st6.trans ?_
    show Steps p.tables e below (T6.setTop (mkF m 45 #[.val (.int p1), .val (.int p2), .val (.int p3), .val (.int (0 : Int32)), .val (.ref w4), .val (.int (0 : Int32)), .val (.double (FP.i2d p2)), .second, .val (.double (FP.i2d p3)), .second, .unset, .unset, .unset, .unset, .unset, .unset] [(.double (FP.dneg (FP.i2d p2)))])) _
    jvm_step X6.here [X6.here.top, hx, (hb hby at_45)]
    refine ⟨#[.val (.int p1), .val (.int p2), .val (.int p3), .val (.int (0 : Int32)), .val (.ref w4), .val (.int (0 : Int32)), .val (.double (FP.i2d p2)), .second, .val (.double (FP.i2d p3)), .second, .val (.double (FP.dneg (FP.i2d p2))), .second, .unset, .unset, .unset, .unset], rfl, ?_⟩
    show Steps p.tables e below (T6.setTop (mkF m 47 #[.val (.int p1), .val (.int p2), .val (.int p3), .val (.int (0 : Int32)), .val (.ref w4), .val (.int (0 : Int32)), .val (.double (FP.i2d p2)), .second, .val (.double (FP.i2d p3)), .second, .val (.double (FP.dneg (FP.i2d p2))), .second, .unset, .unset, .unset, .unset] [])) _
    refine XS.aload X6.here hx rfl (hb hby at_47) rfl rfl ?_
    show Steps p.tables e below (T6.setTop (mkF m 49 #[.val (.int p1), .val (.int p2), .val (.int p3), .val (.int (0 : Int32)), .val (.ref w4), .val (.int (0 : Int32)), .val (.double (FP.i2d p2)), .second, .val (.double (FP.i2d p3)), .second, .val (.double (FP.dneg (FP.i2d p2))), .second, .unset, .unset, .unset, .unset] [(.ref w4)])) _
    jvm_step X6.here [X6.here.top, hx, (hb hby at_49)]
    show Steps p.tables e below (T6.setTop (mkF m 51 #[.val (.int p1), .val (.int p2), .val (.int p3), .val (.int (0 : Int32)), .val (.ref w4), .val (.int (0 : Int32)), .val (.double (FP.i2d p2)), .second, .val (.double (FP.i2d p3)), .second, .val (.double (FP.dneg (FP.i2d p2))), .second, .unset, .unset, .unset, .unset] [(.double (FP.i2d p3)), (.ref w4)])) _
    refine st7.trans ?_
    show Steps p.tables e below (T7.setTop (mkF m 54 #[.val (.int p1), .val (.int p2), .val (.int p3), .val (.int (0 : Int32)), .val (.ref w4), .val (.int (0 : Int32)), .val (.double (FP.i2d p2)), .second, .val (.double (FP.i2d p3)), .second, .val (.double (FP.dneg (FP.i2d p2))), .second, .unset, .unset, .unset, .unset] [(.double (FP.dneg (FP.i2d p3)))])) _
    jvm_step X7.here [X7.here.top, hx, (hb hby at_54)]
    refine ⟨#[.val (.int p1), .val (.int p2), .val (.int p3), .val (.int (0 : Int32)), .val (.ref w4), .val (.int (0 : Int32)), .val (.double (FP.i2d p2)), .second, .val (.double (FP.i2d p3)), .second, .val (.double (FP.dneg (FP.i2d p2))), .second, .val (.double (FP.dneg (FP.i2d p3))), .second, .unset, .unset], rfl, ?_⟩
    show Steps p.tables e below (T7.setTop (mkF m 56 #[.val (.int p1), .val (.int p2), .val (.int p3), .val (.int (0 : Int32)), .val (.ref w4), .val (.int (0 : Int32)), .val (.double (FP.i2d p2)), .second, .val (.double (FP.i2d p3)), .second, .val (.double (FP.dneg (FP.i2d p2))), .second, .val (.double (FP.dneg (FP.i2d p3))), .second, .unset, .unset] [])) _
    refine XS.iload X7.here hx rfl (hb hby at_56) rfl ?_
    show Steps p.tables e below (T7.setTop (mkF m 58 #[.val (.int p1), .val (.int p2), .val (.int p3), .val (.int (0 : Int32)), .val (.ref w4), .val (.int (0 : Int32)), .val (.double (FP.i2d p2)), .second, .val (.double (FP.i2d p3)), .second, .val (.double (FP.dneg (FP.i2d p2))), .second, .val (.double (FP.dneg (FP.i2d p3))), .second, .unset, .unset] [(.int (0 : Int32))])) _
    refine XS.ifYes X7.here hx rfl (pc0 := 58) (pc' := 74) rfl (hb hby at_58) rfl ((if0 _ _).trans (teq (rfl : (0 : Int32) = (0 : Int32))).1) (by decide) (by decide) ?_
    show Steps p.tables e below (T7.setTop (mkF m 74 #[.val (.int p1), .val (.int p2), .val (.int p3), .val (.int (0 : Int32)), .val (.ref w4), .val (.int (0 : Int32)), .val (.double (FP.i2d p2)), .second, .val (.double (FP.i2d p3)), .second, .val (.double (FP.dneg (FP.i2d p2))), .second, .val (.double (FP.dneg (FP.i2d p3))), .second, .unset, .unset] [])) _
    refine XS.iloadN X7.here hx rfl (hb hby at_74) rfl ?_
    show Steps p.tables e below (T7.setTop (mkF m 75 #[.val (.int p1), .val (.int p2), .val (.int p3), .val (.int (0 : Int32)), .val (.ref w4), .val (.int (0 : Int32)), .val (.double (FP.i2d p2)), .second, .val (.double (FP.i2d p3)), .second, .val (.double (FP.dneg (FP.i2d p2))), .second, .val (.double (FP.dneg (FP.i2d p3))), .second, .unset, .unset] [(.int p2)])) _
    refine XS.iloadN X7.here hx rfl (hb hby at_75) rfl ?_
    show Steps p.tables e below (T7.setTop (mkF m 76 #[.val (.int p1), .val (.int p2), .val (.int p3), .val (.int (0 : Int32)), .val (.ref w4), .val (.int (0 : Int32)), .val (.double (FP.i2d p2)), .second, .val (.double (FP.i2d p3)), .second, .val (.double (FP.dneg (FP.i2d p2))), .second, .val (.double (FP.dneg (FP.i2d p3))), .second, .unset, .unset] [(.int p3), (.int p2)])) _
    refine XS.icmpYes X7.here hx rfl (pc0 := 76) (pc' := 83) rfl (hb hby at_76) rfl (flt hc76).2.2.2 (by decide) (by decide) ?_
    show Steps p.tables e below (T7.setTop (mkF m 83 #[.val (.int p1), .val (.int p2), .val (.int p3), .val (.int (0 : Int32)), .val (.ref w4), .val (.int (0 : Int32)), .val (.double (FP.i2d p2)), .second, .val (.double (FP.i2d p3)), .second, .val (.double (FP.dneg (FP.i2d p2))), .second, .val (.double (FP.dneg (FP.i2d p3))), .second, .unset, .unset] [])) _
    refine XS.iconst X7.here hx rfl (hb hby at_83) ?_
    show Steps p.tables e below (T7.setTop (mkF m 84 #[.val (.int p1), .val (.int p2), .val (.int p3), .val (.int (0 : Int32)), .val (.ref w4), .val (.int (0 : Int32)), .val (.double (FP.i2d p2)), .second, .val (.double (FP.i2d p3)), .second, .val (.double (FP.dneg (FP.i2d p2))), .second, .val (.double (FP.dneg (FP.i2d p3))), .second, .unset, .unset] [(.int (0 : Int32))])) _
    refine XS.istore X7.here hx rfl (hb hby at_84) rfl (l' := #[.val (.int p1), .val (.int p2), .val (.int p3), .val (.int (0 : Int32)), .val (.ref w4), .val (.int (0 : Int32)), .val (.double (FP.i2d p2)), .second, .val (.double (FP.i2d p3)), .second, .val (.double (FP.dneg (FP.i2d p2))), .second, .val (.double (FP.dneg (FP.i2d p3))), .second, .val (.int (0 : Int32)), .unset]) rfl ?_
    show Steps p.tables e below (T7.setTop (mkF m 86 #[.val (.int p1), .val (.int p2), .val (.int p3), .val (.int (0 : Int32)), .val (.ref w4), .val (.int (0 : Int32)), .val (.double (FP.i2d p2)), .second, .val (.double (FP.i2d p3)), .second, .val (.double (FP.dneg (FP.i2d p2))), .second, .val (.double (FP.dneg (FP.i2d p3))), .second, .val (.int (0 : Int32)), .unset] [])) _
    refine XS.iload X7.here hx rfl (hb hby at_86) rfl ?_
    show Steps p.tables e below (T7.setTop (mkF m 88 #[.val (.int p1), .val (.int p2), .val (.int p3), .val (.int (0 : Int32)), .val (.ref w4), .val (.int (0 : Int32)), .val (.double (FP.i2d p2)), .second, .val (.double (FP.i2d p3)), .second, .val (.double (FP.dneg (FP.i2d p2))), .second, .val (.double (FP.dneg (FP.i2d p3))), .second, .val (.int (0 : Int32)), .unset] [(.int (0 : Int32))])) _
    refine XS.ifYes X7.here hx rfl (pc0 := 88) (pc' := 104) rfl (hb hby at_88) rfl ((if0 _ _).trans (teq (rfl : (0 : Int32) = (0 : Int32))).1) (by decide) (by decide) ?_
    show Steps p.tables e below (T7.setTop (mkF m 104 #[.val (.int p1), .val (.int p2), .val (.int p3), .val (.int (0 : Int32)), .val (.ref w4), .val (.int (0 : Int32)), .val (.double (FP.i2d p2)), .second, .val (.double (FP.i2d p3)), .second, .val (.double (FP.dneg (FP.i2d p2))), .second, .val (.double (FP.dneg (FP.i2d p3))), .second, .val (.int (0 : Int32)), .unset] [])) _
    refine XS.iloadN X7.here hx rfl (hb hby at_104) rfl ?_
    show Steps p.tables e below (T7.setTop (mkF m 105 #[.val (.int p1), .val (.int p2), .val (.int p3), .val (.int (0 : Int32)), .val (.ref w4), .val (.int (0 : Int32)), .val (.double (FP.i2d p2)), .second, .val (.double (FP.i2d p3)), .second, .val (.double (FP.dneg (FP.i2d p2))), .second, .val (.double (FP.dneg (FP.i2d p3))), .second, .val (.int (0 : Int32)), .unset] [(.int p3)])) _
    refine XS.iloadN X7.here hx rfl (hb hby at_105) rfl ?_
    show Steps p.tables e below (T7.setTop (mkF m 106 #[.val (.int p1), .val (.int p2), .val (.int p3), .val (.int (0 : Int32)), .val (.ref w4), .val (.int (0 : Int32)), .val (.double (FP.i2d p2)), .second, .val (.double (FP.i2d p3)), .second, .val (.double (FP.dneg (FP.i2d p2))), .second, .val (.double (FP.dneg (FP.i2d p3))), .second, .val (.int (0 : Int32)), .unset] [(.int p2), (.int p3)])) _
    refine XS.icmpYes X7.here hx rfl (pc0 := 106) (pc' := 113) rfl (hb hby at_106) rfl (flt hc106).2.2.2 (by decide) (by decide) ?_
    show Steps p.tables e below (T7.setTop (mkF m 113 #[.val (.int p1), .val (.int p2), .val (.int p3), .val (.int (0 : Int32)), .val (.ref w4), .val (.int (0 : Int32)), .val (.double (FP.i2d p2)), .second, .val (.double (FP.i2d p3)), .second, .val (.double (FP.dneg (FP.i2d p2))), .second, .val (.double (FP.dneg (FP.i2d p3))), .second, .val (.int (0 : Int32)), .unset] [])) _
    refine XS.iconst X7.here hx rfl (hb hby at_113) ?_
    show Steps p.tables e below (T7.setTop (mkF m 114 #[.val (.int p1), .val (.int p2), .val (.int p3), .val (.int (0 : Int32)), .val (.ref w4), .val (.int (0 : Int32)), .val (.double (FP.i2d p2)), .second, .val (.double (FP.i2d p3)), .second, .val (.double (FP.dneg (FP.i2d p2))), .second, .val (.double (FP.dneg (FP.i2d p3))), .second, .val (.int (0 : Int32)), .unset] [(.int (0 : Int32))])) _
    refine XS.istore X7.here hx rfl (hb hby at_114) rfl (l' := #[.val (.int p1), .val (.int p2), .val (.int p3), .val (.int (0 : Int32)), .val (.ref w4), .val (.int (0 : Int32)), .val (.double (FP.i2d p2)), .second, .val (.double (FP.i2d p3)), .second, .val (.double (FP.dneg (FP.i2d p2))), .second, .val (.double (FP.dneg (FP.i2d p3))), .second, .val (.int (0 : Int32)), .val (.int (0 : Int32))]) rfl ?_
    show Steps p.tables e below (T7.setTop (mkF m 116 #[.val (.int p1), .val (.int p2), .val (.int p3), .val (.int (0 : Int32)), .val (.ref w4), .val (.int (0 : Int32)), .val (.double (FP.i2d p2)), .second, .val (.double (FP.i2d p3)), .second, .val (.double (FP.dneg (FP.i2d p2))), .second, .val (.double (FP.dneg (FP.i2d p3))), .second, .val (.int (0 : Int32)), .val (.int (0 : Int32))] [])) _
    jvm_step X7.here [X7.here.top, hx, (hb hby at_116)]
    show Steps p.tables e below (T7.setTop (mkF m 118 #[.val (.int p1), .val (.int p2), .val (.int p3), .val (.int (0 : Int32)), .val (.ref w4), .val (.int (0 : Int32)), .val (.double (FP.i2d p2)), .second, .val (.double (FP.i2d p3)), .second, .val (.double (FP.dneg (FP.i2d p2))), .second, .val (.double (FP.dneg (FP.i2d p3))), .second, .val (.int (0 : Int32)), .val (.int (0 : Int32))] [(.double (FP.dneg (FP.i2d p2)))])) _
    jvm_step X7.here [X7.here.top, hx, (hb hby at_118)]
    show Steps p.tables e below (T7.setTop (mkF m 120 #[.val (.int p1), .val (.int p2), .val (.int p3), .val (.int (0 : Int32)), .val (.ref w4), .val (.int (0 : Int32)), .val (.double (FP.i2d p2)), .second, .val (.double (FP.i2d p3)), .second, .val (.double (FP.dneg (FP.i2d p2))), .second, .val (.double (FP.dneg (FP.i2d p3))), .second, .val (.int (0 : Int32)), .val (.int (0 : Int32))] [(.double (FP.dneg (FP.i2d p3))), (.double (FP.dneg (FP.i2d p2)))])) _
    jvm_step X7.here [X7.here.top, hx, (hb hby at_120)]
    show Steps p.tables e below (T7.setTop (mkF m 121 #[.val (.int p1), .val (.int p2), .val (.int p3), .val (.int (0 : Int32)), .val (.ref w4), .val (.int (0 : Int32)), .val (.double (FP.i2d p2)), .second, .val (.double (FP.i2d p3)), .second, .val (.double (FP.dneg (FP.i2d p2))), .second, .val (.double (FP.dneg (FP.i2d p3))), .second, .val (.int (0 : Int32)), .val (.int (0 : Int32))] [(.int (cmpValue (FP.dcmp (FP.dneg (FP.i2d p2)) (FP.dneg (FP.i2d p3))) .g))])) _
    refine XS.ifYes X7.here hx rfl (pc0 := 121) (pc' := 128) rfl (hb hby at_121) rfl ((if0 _ _).trans (flt ((by rw [own_eq (own_dn (own_di p2)) (own_dn (own_di p3)) (by rw [hc167])]; decide) : ¬ ((cmpValue (FP.dcmp (FP.dneg (FP.i2d p2)) (FP.dneg (FP.i2d p3))) .g) < (0 : Int32)))).2.1) (by decide) (by decide) ?_
    show Steps p.tables e below (T7.setTop (mkF m 128 #[.val (.int p1), .val (.int p2), .val (.int p3), .val (.int (0 : Int32)), .val (.ref w4), .val (.int (0 : Int32)), .val (.double (FP.i2d p2)), .second, .val (.double (FP.i2d p3)), .second, .val (.double (FP.dneg (FP.i2d p2))), .second, .val (.double (FP.dneg (FP.i2d p3))), .second, .val (.int (0 : Int32)), .val (.int (0 : Int32))] [])) _
    refine XS.iconst X7.here hx rfl (hb hby at_128) ?_
    show Steps p.tables e below (T7.setTop (mkF m 129 #[.val (.int p1), .val (.int p2), .val (.int p3), .val (.int (0 : Int32)), .val (.ref w4), .val (.int (0 : Int32)), .val (.double (FP.i2d p2)), .second, .val (.double (FP.i2d p3)), .second, .val (.double (FP.dneg (FP.i2d p2))), .second, .val (.double (FP.dneg (FP.i2d p3))), .second, .val (.int (0 : Int32)), .val (.int (0 : Int32))] [(.int (0 : Int32))])) _
    refine XS.iload X7.here hx rfl (hb hby at_129) rfl ?_
    show Steps p.tables e below (T7.setTop (mkF m 131 #[.val (.int p1), .val (.int p2), .val (.int p3), .val (.int (0 : Int32)), .val (.ref w4), .val (.int (0 : Int32)), .val (.double (FP.i2d p2)), .second, .val (.double (FP.i2d p3)), .second, .val (.double (FP.dneg (FP.i2d p2))), .second, .val (.double (FP.dneg (FP.i2d p3))), .second, .val (.int (0 : Int32)), .val (.int (0 : Int32))] [(.int (0 : Int32)), (.int (0 : Int32))])) _
    refine XS.icmpNo X7.here hx rfl (hb hby at_131) rfl (teq (rfl : (0 : Int32) = (0 : Int32))).2 ?_
    show Steps p.tables e below (T7.setTop (mkF m 134 #[.val (.int p1), .val (.int p2), .val (.int p3), .val (.int (0 : Int32)), .val (.ref w4), .val (.int (0 : Int32)), .val (.double (FP.i2d p2)), .second, .val (.double (FP.i2d p3)), .second, .val (.double (FP.dneg (FP.i2d p2))), .second, .val (.double (FP.dneg (FP.i2d p3))), .second, .val (.int (0 : Int32)), .val (.int (0 : Int32))] [])) _
    jvm_step X7.here [X7.here.top, hx, (hb hby at_134)]
    show Steps p.tables e below (T7.setTop (mkF m 136 #[.val (.int p1), .val (.int p2), .val (.int p3), .val (.int (0 : Int32)), .val (.ref w4), .val (.int (0 : Int32)), .val (.double (FP.i2d p2)), .second, .val (.double (FP.i2d p3)), .second, .val (.double (FP.dneg (FP.i2d p2))), .second, .val (.double (FP.dneg (FP.i2d p3))), .second, .val (.int (0 : Int32)), .val (.int (0 : Int32))] [(.double (FP.dneg (FP.i2d p3)))])) _
    jvm_step X7.here [X7.here.top, hx, (hb hby at_136)]
    show Steps p.tables e below (T7.setTop (mkF m 138 #[.val (.int p1), .val (.int p2), .val (.int p3), .val (.int (0 : Int32)), .val (.ref w4), .val (.int (0 : Int32)), .val (.double (FP.i2d p2)), .second, .val (.double (FP.i2d p3)), .second, .val (.double (FP.dneg (FP.i2d p2))), .second, .val (.double (FP.dneg (FP.i2d p3))), .second, .val (.int (0 : Int32)), .val (.int (0 : Int32))] [(.double (FP.dneg (FP.i2d p2))), (.double (FP.dneg (FP.i2d p3)))])) _
    jvm_step X7.here [X7.here.top, hx, (hb hby at_138)]
    show Steps p.tables e below (T7.setTop (mkF m 139 #[.val (.int p1), .val (.int p2), .val (.int p3), .val (.int (0 : Int32)), .val (.ref w4), .val (.int (0 : Int32)), .val (.double (FP.i2d p2)), .second, .val (.double (FP.i2d p3)), .second, .val (.double (FP.dneg (FP.i2d p2))), .second, .val (.double (FP.dneg (FP.i2d p3))), .second, .val (.int (0 : Int32)), .val (.int (0 : Int32))] [(.int (cmpValue (FP.dcmp (FP.dneg (FP.i2d p3)) (FP.dneg (FP.i2d p2))) .g))])) _
    refine XS.ifYes X7.here hx rfl (pc0 := 139) (pc' := 146) rfl (hb hby at_139) rfl ((if0 _ _).trans (flt ((by rw [own_eq (own_dn (own_di p3)) (own_dn (own_di p2)) (by rw [hc167])]; decide) : ¬ ((cmpValue (FP.dcmp (FP.dneg (FP.i2d p3)) (FP.dneg (FP.i2d p2))) .g) < (0 : Int32)))).2.1) (by decide) (by decide) ?_
    show Steps p.tables e below (T7.setTop (mkF m 146 #[.val (.int p1), .val (.int p2), .val (.int p3), .val (.int (0 : Int32)), .val (.ref w4), .val (.int (0 : Int32)), .val (.double (FP.i2d p2)), .second, .val (.double (FP.i2d p3)), .second, .val (.double (FP.dneg (FP.i2d p2))), .second, .val (.double (FP.dneg (FP.i2d p3))), .second, .val (.int (0 : Int32)), .val (.int (0 : Int32))] [])) _
    refine XS.iconst X7.here hx rfl (hb hby at_146) ?_
    show Steps p.tables e below (T7.setTop (mkF m 147 #[.val (.int p1), .val (.int p2), .val (.int p3), .val (.int (0 : Int32)), .val (.ref w4), .val (.int (0 : Int32)), .val (.double (FP.i2d p2)), .second, .val (.double (FP.i2d p3)), .second, .val (.double (FP.dneg (FP.i2d p2))), .second, .val (.double (FP.dneg (FP.i2d p3))), .second, .val (.int (0 : Int32)), .val (.int (0 : Int32))] [(.int (0 : Int32))])) _
    refine XS.iload X7.here hx rfl (hb hby at_147) rfl ?_
    show Steps p.tables e below (T7.setTop (mkF m 149 #[.val (.int p1), .val (.int p2), .val (.int p3), .val (.int (0 : Int32)), .val (.ref w4), .val (.int (0 : Int32)), .val (.double (FP.i2d p2)), .second, .val (.double (FP.i2d p3)), .second, .val (.double (FP.dneg (FP.i2d p2))), .second, .val (.double (FP.dneg (FP.i2d p3))), .second, .val (.int (0 : Int32)), .val (.int (0 : Int32))] [(.int (0 : Int32)), (.int (0 : Int32))])) _
    refine XS.icmpNo X7.here hx rfl (hb hby at_149) rfl (teq (rfl : (0 : Int32) = (0 : Int32))).2 ?_
    show Steps p.tables e below (T7.setTop (mkF m 152 #[.val (.int p1), .val (.int p2), .val (.int p3), .val (.int (0 : Int32)), .val (.ref w4), .val (.int (0 : Int32)), .val (.double (FP.i2d p2)), .second, .val (.double (FP.i2d p3)), .second, .val (.double (FP.dneg (FP.i2d p2))), .second, .val (.double (FP.dneg (FP.i2d p3))), .second, .val (.int (0 : Int32)), .val (.int (0 : Int32))] [])) _
    jvm_step X7.here [X7.here.top, hx, (hb hby at_152)]
    show Steps p.tables e below (T7.setTop (mkF m 154 #[.val (.int p1), .val (.int p2), .val (.int p3), .val (.int (0 : Int32)), .val (.ref w4), .val (.int (0 : Int32)), .val (.double (FP.i2d p2)), .second, .val (.double (FP.i2d p3)), .second, .val (.double (FP.dneg (FP.i2d p2))), .second, .val (.double (FP.dneg (FP.i2d p3))), .second, .val (.int (0 : Int32)), .val (.int (0 : Int32))] [(.double (FP.dneg (FP.i2d p2)))])) _
    jvm_step X7.here [X7.here.top, hx, (hb hby at_154)]
    show Steps p.tables e below (T7.setTop (mkF m 156 #[.val (.int p1), .val (.int p2), .val (.int p3), .val (.int (0 : Int32)), .val (.ref w4), .val (.int (0 : Int32)), .val (.double (FP.i2d p2)), .second, .val (.double (FP.i2d p3)), .second, .val (.double (FP.dneg (FP.i2d p2))), .second, .val (.double (FP.dneg (FP.i2d p3))), .second, .val (.int (0 : Int32)), .val (.int (0 : Int32))] [(.double (FP.dneg (FP.i2d p3))), (.double (FP.dneg (FP.i2d p2)))])) _
    jvm_step X7.here [X7.here.top, hx, (hb hby at_156)]
    show Steps p.tables e below (T7.setTop (mkF m 157 #[.val (.int p1), .val (.int p2), .val (.int p3), .val (.int (0 : Int32)), .val (.ref w4), .val (.int (0 : Int32)), .val (.double (FP.i2d p2)), .second, .val (.double (FP.i2d p3)), .second, .val (.double (FP.dneg (FP.i2d p2))), .second, .val (.double (FP.dneg (FP.i2d p3))), .second, .val (.int (0 : Int32)), .val (.int (0 : Int32))] [(.int (cmpValue (FP.dcmp (FP.dneg (FP.i2d p2)) (FP.dneg (FP.i2d p3))) .l))])) _
    refine XS.ifNo X7.here hx rfl (hb hby at_157) rfl ((if0 _ _).trans (teq ((own_eq (own_dn (own_di p2)) (own_dn (own_di p3)) (by rw [hc167]) .l) : (cmpValue (FP.dcmp (FP.dneg (FP.i2d p2)) (FP.dneg (FP.i2d p3))) .l) = (0 : Int32))).2) ?_
    show Steps p.tables e below (T7.setTop (mkF m 160 #[.val (.int p1), .val (.int p2), .val (.int p3), .val (.int (0 : Int32)), .val (.ref w4), .val (.int (0 : Int32)), .val (.double (FP.i2d p2)), .second, .val (.double (FP.i2d p3)), .second, .val (.double (FP.dneg (FP.i2d p2))), .second, .val (.double (FP.dneg (FP.i2d p3))), .second, .val (.int (0 : Int32)), .val (.int (0 : Int32))] [])) _
    refine XS.iconst X7.here hx rfl (hb hby at_160) ?_
    show Steps p.tables e below (T7.setTop (mkF m 161 #[.val (.int p1), .val (.int p2), .val (.int p3), .val (.int (0 : Int32)), .val (.ref w4), .val (.int (0 : Int32)), .val (.double (FP.i2d p2)), .second, .val (.double (FP.i2d p3)), .second, .val (.double (FP.dneg (FP.i2d p2))), .second, .val (.double (FP.dneg (FP.i2d p3))), .second, .val (.int (0 : Int32)), .val (.int (0 : Int32))] [(.int (1 : Int32))])) _
    refine XS.goto X7.here hx rfl (pc0 := 161) (pc' := 165) rfl (hb hby at_161) (by decide) (by decide) ?_
    show Steps p.tables e below (T7.setTop (mkF m 165 #[.val (.int p1), .val (.int p2), .val (.int p3), .val (.int (0 : Int32)), .val (.ref w4), .val (.int (0 : Int32)), .val (.double (FP.i2d p2)), .second, .val (.double (FP.i2d p3)), .second, .val (.double (FP.dneg (FP.i2d p2))), .second, .val (.double (FP.dneg (FP.i2d p3))), .second, .val (.int (0 : Int32)), .val (.int (0 : Int32))] [(.int (1 : Int32))])) _
    refine XS.iloadN X7.here hx rfl (hb hby at_165) rfl ?_
    show Steps p.tables e below (T7.setTop (mkF m 166 #[.val (.int p1), .val (.int p2), .val (.int p3), .val (.int (0 : Int32)), .val (.ref w4), .val (.int (0 : Int32)), .val (.double (FP.i2d p2)), .second, .val (.double (FP.i2d p3)), .second, .val (.double (FP.dneg (FP.i2d p2))), .second, .val (.double (FP.dneg (FP.i2d p3))), .second, .val (.int (0 : Int32)), .val (.int (0 : Int32))] [(.int p2), (.int (1 : Int32))])) _
    refine XS.iloadN X7.here hx rfl (hb hby at_166) rfl ?_
    show Steps p.tables e below (T7.setTop (mkF m 167 #[.val (.int p1), .val (.int p2), .val (.int p3), .val (.int (0 : Int32)), .val (.ref w4), .val (.int (0 : Int32)), .val (.double (FP.i2d p2)), .second, .val (.double (FP.i2d p3)), .second, .val (.double (FP.dneg (FP.i2d p2))), .second, .val (.double (FP.dneg (FP.i2d p3))), .second, .val (.int (0 : Int32)), .val (.int (0 : Int32))] [(.int p3), (.int p2), (.int (1 : Int32))])) _
    refine XS.icmpNo X7.here hx rfl (hb hby at_167) rfl (teq hc167).2 ?_
    show Steps p.tables e below (T7.setTop (mkF m 170 #[.val (.int p1), .val (.int p2), .val (.int p3), .val (.int (0 : Int32)), .val (.ref w4), .val (.int (0 : Int32)), .val (.double (FP.i2d p2)), .second, .val (.double (FP.i2d p3)), .second, .val (.double (FP.dneg (FP.i2d p2))), .second, .val (.double (FP.dneg (FP.i2d p3))), .second, .val (.int (0 : Int32)), .val (.int (0 : Int32))] [(.int (1 : Int32))])) _
    refine XS.iconst X7.here hx rfl (hb hby at_170) ?_
    show Steps p.tables e below (T7.setTop (mkF m 171 #[.val (.int p1), .val (.int p2), .val (.int p3), .val (.int (0 : Int32)), .val (.ref w4), .val (.int (0 : Int32)), .val (.double (FP.i2d p2)), .second, .val (.double (FP.i2d p3)), .second, .val (.double (FP.dneg (FP.i2d p2))), .second, .val (.double (FP.dneg (FP.i2d p3))), .second, .val (.int (0 : Int32)), .val (.int (0 : Int32))] [(.int (1 : Int32)), (.int (1 : Int32))])) _
    refine XS.goto X7.here hx rfl (pc0 := 171) (pc' := 175) rfl (hb hby at_171) (by decide) (by decide) ?_
    show Steps p.tables e below (T7.setTop (mkF m 175 #[.val (.int p1), .val (.int p2), .val (.int p3), .val (.int (0 : Int32)), .val (.ref w4), .val (.int (0 : Int32)), .val (.double (FP.i2d p2)), .second, .val (.double (FP.i2d p3)), .second, .val (.double (FP.dneg (FP.i2d p2))), .second, .val (.double (FP.dneg (FP.i2d p3))), .second, .val (.int (0 : Int32)), .val (.int (0 : Int32))] [(.int (1 : Int32)), (.int (1 : Int32))])) _
    refine XS.icmpNo X7.here hx rfl (hb hby at_175) rfl (teq (rfl : (1 : Int32) = (1 : Int32))).2 ?_
    show Steps p.tables e below (T7.setTop (mkF m 178 #[.val (.int p1), .val (.int p2), .val (.int p3), .val (.int (0 : Int32)), .val (.ref w4), .val (.int (0 : Int32)), .val (.double (FP.i2d p2)), .second, .val (.double (FP.i2d p3)), .second, .val (.double (FP.dneg (FP.i2d p2))), .second, .val (.double (FP.dneg (FP.i2d p3))), .second, .val (.int (0 : Int32)), .val (.int (0 : Int32))] [])) _
    refine XS.iconst X7.here hx rfl (hb hby at_178) ?_
    show Steps p.tables e below (T7.setTop (mkF m 179 #[.val (.int p1), .val (.int p2), .val (.int p3), .val (.int (0 : Int32)), .val (.ref w4), .val (.int (0 : Int32)), .val (.double (FP.i2d p2)), .second, .val (.double (FP.i2d p3)), .second, .val (.double (FP.dneg (FP.i2d p2))), .second, .val (.double (FP.dneg (FP.i2d p3))), .second, .val (.int (0 : Int32)), .val (.int (0 : Int32))] [(.int (1 : Int32))])) _
    refine XS.goto X7.here hx rfl (pc0 := 179) (pc' := 183) rfl (hb hby at_179) (by decide) (by decide) ?_
    show Steps p.tables e below (T7.setTop (mkF m 183 #[.val (.int p1), .val (.int p2), .val (.int p3), .val (.int (0 : Int32)), .val (.ref w4), .val (.int (0 : Int32)), .val (.double (FP.i2d p2)), .second, .val (.double (FP.i2d p3)), .second, .val (.double (FP.dneg (FP.i2d p2))), .second, .val (.double (FP.dneg (FP.i2d p3))), .second, .val (.int (0 : Int32)), .val (.int (0 : Int32))] [(.int (1 : Int32))])) _
    exact retN X7 hx (t := .boolean) Bd.returns (by simp) (hb hby at_183) hr
  · show Q0f Z p1 p2 p3 w4 h0 n0 _ T7.heap _
    exact ⟨rfl, N7⟩
set_option maxRecDepth 65536 in
set_option maxHeartbeats 40000000 in
theorem comes_1 {Post : Tables → Env → Array Value → State → Outcome → State → Prop} (hpost : ∀ tb e args s v u, (limb_1_1.after args s (.returned v) u = true ∧ limb_1_2.after args s (.returned v) u = true ∧ True) → FrameEnd s (.returned v) u (Jvm.fieldLocs frame_1_writes args s ++ Jvm.arrayLocs frame_1_arrays args s ++ Jvm.staticLocs frame_1_statics s) 0 0 → Post tb e args s (.returned v) u) :
    ArmFor flags0 classFile x code maxLocals ret World_1 tables_1 room_1 Calls_1 rest_1 Pre_1 Post := by
  intro l hfl _ _ p e ha hc hk s m args below hf hA hF happ hP
  obtain ⟨hcalls, hrest, hpre⟩ := hP
  obtain ⟨-, -, -, hnamed, -, -, -, hat⟩ := (Spec.applies_iff hf).mp happ
  obtain ⟨hg, hn⟩ := and_e (Cond.before_iff.mp (show (Jvm.Cond.and given_1 narrow_1).before args s = true from hpre))
  obtain ⟨g8, g9⟩ := and_e hg
  obtain ⟨g10, g11⟩ := and_e g9
  obtain ⟨g12, g13⟩ := and_e g11
  obtain ⟨w0, w1, w2, rfl⟩ : ∃ w0 w1 w2 : Value, args = #[w0, w1, w2] := by
    have hs : args.size = 3 := by simpa [Cond.value, given_1] using g8
    obtain ⟨L⟩ := args
    match L, hs with
    | [w0, w1, w2], _ => exact ⟨w0, w1, w2, rfl⟩
  have hw := fun d (hd : d ∈ tables_1) => atoms_spec (ws := Jvm.Cond.code x code maxLocals ret :: tables_1) hat d (List.mem_cons_of_mem _ hd)
  have hfit : Fit s := fun {y c} hc i hi => by
    obtain ⟨ha, rfl⟩ := Array.getElem?_eq_some_iff.mp hc
    have q := List.all_eq_true.mp ((Array.all_eq_true_iff_forall_mem.mp hF) _ (Array.getElem_mem ha)) i (List.mem_range.mpr hi)
    simpa [Array.getElem?_eq_getElem hi] using q
  obtain ⟨i0, ei0⟩ := is_v g10
  obtain rfl : w0 = (.int i0) := Option.some.inj ei0
  obtain ⟨i1, ei1⟩ := is_v g12
  obtain rfl : w1 = (.int i1) := Option.some.inj ei1
  obtain ⟨i2, ei2⟩ := is_v g13
  obtain rfl : w2 = (.int i2) := Option.some.inj ei2
  have hn' := hn
  simp only [narrow_1] at hn'
  obtain ⟨xE, hn'⟩ := and_e hn'
  obtain ⟨oE, hn'⟩ := and_e hn'
  obtain ⟨xN, oN⟩ := and_e hn'
  obtain ⟨wE, eE⟩ := exa_v xE
  obtain ⟨wN, eN⟩ := exa_v xN
  have EE := Exa.start eE xE
  have EN := Exa.start eN xN
  have SE : Sta s s.heap "com/example/upweight/upweight/Specificity" "ENTROPY" "Lcom/example/upweight/upweight/Specificity;" (.ref wE) := Sta.start eE (Or.inr ⟨hw _ (List.mem_of_getElem? (i := 1) rfl), hw _ (List.mem_of_getElem? (i := 2) rfl)⟩)
  have SN : Sta s s.heap "com/example/upweight/upweight/Specificity" "NIDF" "Lcom/example/upweight/upweight/Specificity;" (.ref wN) := Sta.start eN (Or.inr ⟨hw _ (List.mem_of_getElem? (i := 1) rfl), hw _ (List.mem_of_getElem? (i := 11) rfl)⟩)
  have FE : Fld s s.heap wE "com/example/upweight/upweight/Specificity" "higherIsMoreSpecific" "Z" (.int 0) := Fld.start ((fld_at eE).symm.trans (own_eqI oE))
  have FN : Fld s s.heap wN "com/example/upweight/upweight/Specificity" "higherIsMoreSpecific" "Z" (.int 1) := Fld.start ((fld_at eN).symm.trans (own_eqI oN))
  have all : MetFree l x (head1 (Jvm.Cond.code x code maxLocals ret :: tables_1) room_1) (fun a U => a = #[(.int i0), (.int i1), (.int i2)] ∧ s.Warmed39 U.vm ∧ U.heap = s.heap) (fun _ _ _ _ _ => True) (fun _ U o U' => ∃ v L, o = .returned v ∧ (v = some (.int 1) ∧ Fr s.heap.size L) ∧ FrameEnd U o U' L room_1.cells room_1.slots) := by
    by_cases h3 : (i0 &&& (1 : Int32)) = (0 : Int32)
    · by_cases hl : i1 < i2
      · have hg : ¬ i2 < i1 := (fun z => by rw [Int32.lt_iff_toInt_lt] at hl z; omega)
        exact rm0e l s _ hw tables_1 i0 i1 i2 wE s.heap s.heap.size (Nat.le_refl _) SE EE FE h3 hg hl (fun z => by subst z; exact absurd hl (by rw [Int32.lt_iff_toInt_lt]; omega))
      · by_cases hg : i2 < i1
        · exact rm0d l s _ hw tables_1 i0 i1 i2 wE s.heap s.heap.size (Nat.le_refl _) SE EE FE h3 hg hl (fun z => by subst z; exact absurd hg (by rw [Int32.lt_iff_toInt_lt]; omega))
        · exact rm0f l s _ hw tables_1 i0 i1 i2 wE s.heap s.heap.size (Nat.le_refl _) SE EE FE h3 hg hl (own_i3 _ _ hl hg)
    · by_cases hl : i1 < i2
      · have hg : ¬ i2 < i1 := (fun z => by rw [Int32.lt_iff_toInt_lt] at hl z; omega)
        exact rm0a l s _ hw tables_1 i0 i1 i2 wN s.heap s.heap.size (Nat.le_refl _) SN EN FN h3 (by decide) (by decide) hl (by decide) hg (fun z => by subst z; exact absurd hl (by rw [Int32.lt_iff_toInt_lt]; omega))
      · by_cases hg : i2 < i1
        · exact rm0b l s _ hw tables_1 i0 i1 i2 wN s.heap s.heap.size (Nat.le_refl _) SN EN FN h3 (by decide) (by decide) hl (by decide) hg (fun z => by subst z; exact absurd hg (by rw [Int32.lt_iff_toInt_lt]; omega))
        · exact rm0c l s _ hw tables_1 i0 i1 i2 wN s.heap s.heap.size (Nat.le_refl _) SN EN FN h3 (by decide) (by decide) hl (by decide) hg (own_i3 _ _ hl hg)
  obtain ⟨n, o, h1, h2, h3, _, L, rfl, ⟨rfl, N⟩, hq⟩ := all p e ha hc hk s m _ below hf ((Spec.applies_iff_loose hf).mp happ).1 ⟨rfl, State.Warmed39.refl s, rfl⟩ trivial
  refine ⟨n, _, h1, h2, h3, hpost _ _ _ _ _ _ ⟨Cond.after_iff.mpr rfl, Cond.after_iff.mpr (eq_i res_at (Term.int_eval (1)) rfl), trivial⟩ ⟨hq.1, hq.2.1, (hq.2.2.sift fun y hy => Or.inr (N y hy)).mono (by decide) (by decide)⟩⟩
theorem main_1_1 : Claimed_1_1 := comes_1 fun _ _ _ _ _ _ h hF => ⟨h.1, hF⟩
theorem main_1_2 : Claimed_1_2 := comes_1 fun _ _ _ _ _ _ h hF => ⟨h.2.1, hF⟩
end Jvm.Pilot.@@N@@
namespace Jvm.Pilot.@@N@@
open Jvm Jvm.ClassFile Sem Op Lib Jvm.Free Jvm.Stand Jvm.Pilot.@@N@@.Jvm.D
/-! MADE BY PROGRAM (witnessworld.py) out of the Statement's table words and the real class files: 12 classes; the members and pool entries that the words name. The judged class is class 1, her method 1. -/
namespace start1
open Jvm.ClassFile
def u (s : String) : CpInfo := .utf8 (stringToUtf16 s)
/-- a pool by its gaps: so many unusable entries, then the entry; so many at the end -/
def gap : Nat → List CpInfo → List CpInfo
  | 0, r => r
  | n + 1, r => .unusable :: gap n r
def poolList (es : List (Nat × CpInfo)) (last : Nat) : List CpInfo := es.foldr (fun e r => gap e.1 (e.2 :: r)) (gap last [])
def pool (es : List (Nat × CpInfo)) (last : Nat) : Array CpInfo := ⟨poolList es last⟩
def fileOf (pool : Array CpInfo) (this : Nat) (attrs : Array Attribute := #[]) (ms : Array MethodInfo := #[]) (fl : Nat := 33) (sup : Nat := 0) (ifs : Array Nat := #[]) (fds : Array FieldInfo := #[]) : ClassFile where
  minorVersion := 0
  majorVersion := 65
  constantPool := pool
  accessFlags := fl
  thisClass := this
  superClass := sup
  interfaces := ifs
  fields := fds
  methods := ms
  attributes := attrs
def plain (name : String) (sup : Option ClassId) : Class where
  name := name
  kind := .ordinary
  loader := none
  accessFlags := 33
  super := sup
  interfaces := #[]
  cf := none
  fields := #[]
  methods := #[]
  instanceTypes := #[]
  staticTypes := #[]
  resolved := #[]
  callSites := []
  init := .initialized
  statics := none
  mirror := none

def pool0 : Array CpInfo := pool [(5, u "<init>"), (0, u "()V"), (1, .class_ 10), (1, u "java/lang/Object")] 113

def k0m0 : Method := { name := "<init>", desc := "()V", sig := { parameters := [], returnType := none }, accessFlags := 1, code := none }
/-- java/lang/Object -/
def k0 : Class := { plain "java/lang/Object" none with
  accessFlags := 33
  interfaces := #[]
  cf := some (fileOf pool0 8 #[] #[{ accessFlags := 1, nameIndex := 5, descriptorIndex := 6, attributes := #[] }] 33 0 #[] #[])
  fields := #[]
  methods := #[k0m0]
  instanceTypes := #[]
  staticTypes := #[]
  resolved := Array.replicate 124 none
  statics := none }

def pool1 : Array CpInfo := pool [(2, .class_ 4), (1, u "java/lang/Object"), (0, u "<init>"), (0, u "()V"), (0, .fieldref 8 9), (0, .class_ 10), (0, .nameAndType 11 12), (0, u "com/example/upweight/upweight/Specificity"), (0, u "NIDF"), (0, u "Lcom/example/upweight/upweight/Specificity;"), (0, .fieldref 8 14), (0, .nameAndType 15 12), (0, u "ENTROPY"), (0, .methodref 8 17), (0, .nameAndType 18 19), (0, u "leastSpecificFirstKey"), (0, u "(D)D"), (0, .class_ 21), (0, u "com/example/upweight/upweight/SpecificityLeastSpecificFirstKeyPinLaw"), (2, u "law"), (0, u "(III)Z")] 3

def k1m0 : Method := { name := "<init>", desc := "()V", sig := { parameters := [], returnType := none }, accessFlags := 1, code := none }
def k1c1 : Code := { maxStack := 4, maxLocals := 16, code := code, exceptionTable := #[], attributes := #[] }
def k1m1 : Method := { name := "law", desc := "(III)Z", sig := { parameters := [.int, .int, .int], returnType := some .boolean }, accessFlags := 9, code := some k1c1 }
/-- com/example/upweight/upweight/SpecificityLeastSpecificFirstKeyPinLaw -/
def k1 : Class := { plain "com/example/upweight/upweight/SpecificityLeastSpecificFirstKeyPinLaw" (some 0) with
  accessFlags := 49
  interfaces := #[]
  cf := some (fileOf pool1 20 #[] #[{ accessFlags := 1, nameIndex := 5, descriptorIndex := 6, attributes := #[] }, { accessFlags := 9, nameIndex := 24, descriptorIndex := 25, attributes := #[] }] 49 2 #[] #[])
  fields := #[]
  methods := #[k1m0, k1m1]
  instanceTypes := #[]
  staticTypes := #[]
  resolved := Array.replicate 29 none
  statics := none }

def pool2 : Array CpInfo := pool [(1, .class_ 2), (0, u "java/lang/constant/Constable"), (0, .class_ 4), (0, u "java/lang/Object")] 6

/-- java/lang/constant/Constable -/
def k2 : Class := { plain "java/lang/constant/Constable" (some 0) with
  accessFlags := 1537
  interfaces := #[]
  cf := some (fileOf pool2 1 #[] #[] 1537 3 #[] #[])
  fields := #[]
  methods := #[]
  instanceTypes := #[]
  staticTypes := #[]
  resolved := Array.replicate 11 none
  statics := none }

def pool3 : Array CpInfo := pool [(1, .class_ 2), (0, u "java/lang/Comparable"), (0, .class_ 4), (0, u "java/lang/Object")] 7

/-- java/lang/Comparable -/
def k3 : Class := { plain "java/lang/Comparable" (some 0) with
  accessFlags := 1537
  interfaces := #[]
  cf := some (fileOf pool3 1 #[] #[] 1537 3 #[] #[])
  fields := #[]
  methods := #[]
  instanceTypes := #[]
  staticTypes := #[]
  resolved := Array.replicate 12 none
  statics := none }

def pool4 : Array CpInfo := pool [(1, .class_ 2), (0, u "java/io/Serializable"), (0, .class_ 4), (0, u "java/lang/Object")] 2

/-- java/io/Serializable -/
def k4 : Class := { plain "java/io/Serializable" (some 0) with
  accessFlags := 1537
  interfaces := #[]
  cf := some (fileOf pool4 1 #[] #[] 1537 3 #[] #[])
  fields := #[]
  methods := #[]
  instanceTypes := #[]
  staticTypes := #[]
  resolved := Array.replicate 7 none
  statics := none }

def pool5 : Array CpInfo := pool [(2, .class_ 4), (1, u "java/lang/Enum"), (0, u "name"), (0, u "Ljava/lang/String;"), (2, u "ordinal"), (0, u "I"), (1, .class_ 14), (1, u "java/lang/Object"), (4, u "hash"), (86, .class_ 108), (1, u "java/lang/Enum$EnumDesc"), (2, .class_ 112), (0, u "java/lang/constant/Constable"), (0, .class_ 114), (0, u "java/lang/Comparable"), (0, .class_ 116), (0, u "java/io/Serializable")] 87

/-- java/lang/Enum -/
def k5 : Class := { plain "java/lang/Enum" (some 0) with
  accessFlags := 1057
  interfaces := #[2, 3, 4]
  cf := some (fileOf pool5 2 #[.nestMembers #[106]] #[] 1057 12 #[111, 113, 115] #[{ accessFlags := 18, nameIndex := 5, descriptorIndex := 6, attributes := #[] }, { accessFlags := 18, nameIndex := 9, descriptorIndex := 10, attributes := #[] }, { accessFlags := 2, nameIndex := 19, descriptorIndex := 10, attributes := #[] }])
  fields := #[{ name := "name", type := (.object "java/lang/String"), accessFlags := 18, slot := 0, constantValue := 0 }, { name := "ordinal", type := .int, accessFlags := 18, slot := 1, constantValue := 0 }, { name := "hash", type := .int, accessFlags := 2, slot := 2, constantValue := 0 }]
  methods := #[]
  instanceTypes := #[(.object "java/lang/String"), .int, .int]
  staticTypes := #[]
  resolved := Array.replicate 204 none
  statics := none }

def pool6 : Array CpInfo := pool [(1, .class_ 2), (0, u "com/example/upweight/upweight/Specificity"), (2, u "ENTROPY"), (0, u "Lcom/example/upweight/upweight/Specificity;"), (2, u "NIDF"), (2, u "$VALUES"), (0, u "[Lcom/example/upweight/upweight/Specificity;"), (6, .class_ 22), (1, u "java/lang/Enum"), (6, .fieldref 1 30), (0, .nameAndType 31 32), (0, u "higherIsMoreSpecific"), (0, u "Z"), (0, .class_ 34), (0, u "com/example/upweight/upweight/Specificity$1"), (4, .class_ 40), (0, u "com/example/upweight/upweight/Specificity$2"), (15, u "leastSpecificFirstKey"), (0, u "(D)D")] 9

def k6c0 : Code := { maxStack := 2, maxLocals := 3, code := prog_24_method_5_code, exceptionTable := #[], attributes := #[] }
def k6m0 : Method := { name := "leastSpecificFirstKey", desc := "(D)D", sig := { parameters := [.double], returnType := some .double }, accessFlags := 0, code := some k6c0 }
/-- com/example/upweight/upweight/Specificity -/
def k6 : Class := { plain "com/example/upweight/upweight/Specificity" (some 5) with
  accessFlags := 17441
  interfaces := #[]
  cf := some (fileOf pool6 1 #[.nestMembers #[39, 33]] #[{ accessFlags := 0, nameIndex := 56, descriptorIndex := 57, attributes := #[] }] 17441 20 #[] #[{ accessFlags := 16409, nameIndex := 5, descriptorIndex := 6, attributes := #[] }, { accessFlags := 16409, nameIndex := 9, descriptorIndex := 6, attributes := #[] }, { accessFlags := 18, nameIndex := 31, descriptorIndex := 32, attributes := #[] }, { accessFlags := 4122, nameIndex := 12, descriptorIndex := 13, attributes := #[] }])
  fields := #[{ name := "ENTROPY", type := (.object "com/example/upweight/upweight/Specificity"), accessFlags := 16409, slot := 0, constantValue := 0 }, { name := "NIDF", type := (.object "com/example/upweight/upweight/Specificity"), accessFlags := 16409, slot := 1, constantValue := 0 }, { name := "higherIsMoreSpecific", type := .boolean, accessFlags := 18, slot := 3, constantValue := 0 }, { name := "$VALUES", type := (.array (.object "com/example/upweight/upweight/Specificity")), accessFlags := 4122, slot := 2, constantValue := 0 }]
  methods := #[k6m0]
  instanceTypes := #[(.object "java/lang/String"), .int, .int, .boolean]
  staticTypes := #[(.object "com/example/upweight/upweight/Specificity"), (.object "com/example/upweight/upweight/Specificity"), (.array (.object "com/example/upweight/upweight/Specificity"))]
  resolved := Array.replicate 67 none
  statics := some 0 }

def pool7 : Array CpInfo := pool [(2, .class_ 4), (1, u "com/example/upweight/upweight/Specificity"), (8, .class_ 14), (0, u "com/example/upweight/upweight/Specificity$1")] 11

/-- com/example/upweight/upweight/Specificity$1 -/
def k7 : Class := { plain "com/example/upweight/upweight/Specificity$1" (some 6) with
  accessFlags := 16432
  interfaces := #[]
  cf := some (fileOf pool7 13 #[.nestHost 2] #[] 16432 2 #[] #[])
  fields := #[]
  methods := #[]
  instanceTypes := #[(.object "java/lang/String"), .int, .int, .boolean]
  staticTypes := #[]
  resolved := Array.replicate 26 none
  statics := none }

def pool8 : Array CpInfo := pool [(2, .class_ 4), (1, u "com/example/upweight/upweight/Specificity"), (10, .class_ 16), (0, u "com/example/upweight/upweight/Specificity$2")] 10

/-- com/example/upweight/upweight/Specificity$2 -/
def k8 : Class := { plain "com/example/upweight/upweight/Specificity$2" (some 6) with
  accessFlags := 16432
  interfaces := #[]
  cf := some (fileOf pool8 15 #[.nestHost 2] #[] 16432 2 #[] #[])
  fields := #[]
  methods := #[]
  instanceTypes := #[(.object "java/lang/String"), .int, .int, .boolean]
  staticTypes := #[]
  resolved := Array.replicate 27 none
  statics := none }

def pool9 : Array CpInfo := pool [(1, u "java/lang/Cloneable"), (0, .class_ 1), (0, u "java/lang/Object"), (0, .class_ 3)] 3

/-- java/lang/Cloneable -/
def k9 : Class := { plain "java/lang/Cloneable" (some 0) with
  accessFlags := 1537
  interfaces := #[]
  cf := some (fileOf pool9 2 #[] #[] 1537 4 #[] #[])
  fields := #[]
  methods := #[]
  instanceTypes := #[]
  staticTypes := #[]
  resolved := Array.replicate 8 none
  statics := none }

/-- the primitive byte -/
def k10 : Class := { plain "byte" none with kind := .primitive 'B', accessFlags := 0x411 }
/-- [B -/
def k11 : Class := { plain "[B" (some 0) with kind := .array 10 .byte, interfaces := #[9, 4], accessFlags := 1041 }

def heap : Heap := #[{ cls := 6, slots := #[.ref 1, .ref 2, .null], vm := .statics 6 },
  { cls := 7, slots := #[.null, .int 0, .int 0, .int 0], vm := .none },
  { cls := 8, slots := #[.null, .int 1, .int 0, .int 1], vm := .none }]
def classes : Array Class := #[k0, k1, k2, k3, k4, k5, k6, k7, k8, k9, k10, k11]
def interned : List (Array UInt16 × Addr) := []
def slotsUsed : Nat := 11
def theMethod : MethodId := ⟨1, 1⟩
def args0 : Array Value := #[.int 1, .int 2, .int 3]
def aboutOver (below : List Frame) : State where
  vm := { classes := classes, interned := interned.toArray }
  heap := heap
  slotsUsed := slotsUsed
  threads := #[{ frames := .invoking theMethod args0 :: below }]
def below0 : List Frame := [.native { method := ⟨0, 0⟩, args := #[] }]
def about1 : State := aboutOver below0
def p0 : Program := .bare "" "" ""
def e0 : Env := launch0.env 0 0 0
theorem w_frames : about1.frames = Frame.invoking theMethod args0 :: below0 := rfl
set_option maxRecDepth 65536 in
theorem w_args : argsFit about1.vm theMethod args0 = true := by decide +kernel
set_option maxRecDepth 65536 in
theorem w_heap : heapFits about1 = true := by decide +kernel
set_option maxRecDepth 65536 in
theorem w_runnable : about1.curStatus? = some .runnable := by decide +kernel
set_option maxRecDepth 65536 in
theorem w_alone : about1.alone = true := by decide +kernel
set_option maxRecDepth 65536 in
theorem w_named : about1.methodNamed? x = some theMethod := by decide +kernel
set_option maxRecDepth 65536 in
theorem w_hears : about1.hears theMethod below0 = true := by decide +kernel
set_option maxRecDepth 65536 in
theorem w_ripe : about1.ripe theMethod args0 below0 = true := by decide +kernel
theorem w_running : about1.status = .running := rfl
set_option maxRecDepth 65536 in
theorem w_room : about1.hasRoom e0.platform room_1 = true :=
  launch0.hasRoom_least _ room_1 (by decide +kernel) (by decide +kernel) (by decide +kernel) (by decide +kernel) (by decide +kernel) (by decide +kernel)
theorem allAtoms_all (ts : List Jvm.Cond) (a : Array Jvm.Value) (st : Jvm.State) : (allAtoms ts).before a st = ts.all (fun c => c.before a st) := by
  induction ts with
  | nil => rfl
  | cons c t ih =>
    show (Jvm.Cond.and c (allAtoms t)).before a st = _
    rw [Jvm.Cond.before_and, ih, List.all_cons]
def words1 : List Jvm.Cond := Jvm.Cond.code x code maxLocals ret :: tables_1
/-- a 'code' word, met by the world's own term for the bytes: nothing is compared byte by byte -/
theorem code_word {y : MethodName} {bytes : ByteArray} {mx : Nat} {rt : Option FieldType} {a : Array Value} {s : State} {m : MethodId} {meth : Method} {c : Code} (h1 : s.methodNamed? y = some m) (h2 : s.vm.method? m = some meth) (h3 : meth.code = some c) (h4 : c.code = bytes)
    (h5 : (c.maxLocals == mx && c.exceptionTable.isEmpty && decide (c.maxStack ≤ mostOperands) && decide (meth.sig.returnType = rt) && !meth.locks && decide (parseMethodDescriptor y.desc = some meth.sig)) = true) : (Jvm.Cond.code y bytes mx rt).before a s = true := by
  simp only [Bool.and_eq_true, beq_iff_eq, Bool.not_eq_true', decide_eq_true_eq] at h5
  obtain ⟨⟨⟨⟨⟨g1, g2⟩, g3⟩, g4⟩, g5⟩, g6⟩ := h5
  simp [Cond.before, Cond.holds, Cond.value, h1, h2, h3, h4, g1, g2, g3, g4, g5, g6]
def isCode : Jvm.Cond → Bool
  | .code _ _ _ _ => true
  | _ => false
theorem all_split {L : List Jvm.Cond} {P : Jvm.Cond → Bool} (h1 : L.all (fun c => isCode c || P c) = true) (h2 : ∀ c ∈ L.filter isCode, P c = true) : L.all P = true := by
  refine List.all_eq_true.mpr fun c hc => ?_
  have h := List.all_eq_true.mp h1 c hc
  rcases Bool.eq_false_or_eq_true (isCode c) with hi | hi
  · exact h2 c (List.mem_filter.mpr ⟨hc, hi⟩)
  · simpa [hi] using h
set_option maxRecDepth 65536 in
theorem w_c0 : (Jvm.Cond.code x code maxLocals ret).before args0 about1 = true := code_word (m := ⟨1, 1⟩) (meth := k1m1) (c := k1c1) (by decide +kernel) rfl rfl rfl (by decide +kernel)
set_option maxRecDepth 65536 in
theorem w_c1 : (Jvm.Cond.code ({ cls := "com/example/upweight/upweight/Specificity", name := "leastSpecificFirstKey", desc := "(D)D" } : Jvm.MethodName) prog_24_method_5_code (3 : Nat) (Option.some Jvm.ClassFile.FieldType.double)).before args0 about1 = true := code_word (m := ⟨6, 0⟩) (meth := k6m0) (c := k6c0) (by decide +kernel) rfl rfl rfl (by decide +kernel)
def codes1 : List Jvm.Cond := [Jvm.Cond.code x code maxLocals ret, Jvm.Cond.code ({ cls := "com/example/upweight/upweight/Specificity", name := "leastSpecificFirstKey", desc := "(D)D" } : Jvm.MethodName) prog_24_method_5_code (3 : Nat) (Option.some Jvm.ClassFile.FieldType.double)]
set_option maxRecDepth 65536 in
theorem codes_eq : words1.filter isCode = codes1 := rfl
theorem w_codes : ∀ c ∈ words1.filter isCode, c.before args0 about1 = true := by
  rw [codes_eq]
  intro c hc
  simp only [codes1, List.mem_cons, List.not_mem_nil, or_false] at hc
  rcases hc with rfl | rfl
  · exact w_c0
  · exact w_c1
set_option maxRecDepth 65536 in
theorem w_t1 : words1.all (fun c => isCode c || c.before args0 about1) = true := by decide +kernel
theorem w_tables : (allAtoms (Jvm.Cond.code x code maxLocals ret :: tables_1)).before args0 about1 = true := by
  rw [allAtoms_all]
  show words1.all (fun c => c.before args0 about1) = true
  refine all_split ?_ w_codes
  rw [w_t1]
set_option maxRecDepth 65536 in
theorem w_case : (Jvm.Cond.and given_1 narrow_1).before args0 about1 = true := by decide +kernel
theorem w_applies : (headSpec (Jvm.Cond.code x code maxLocals ret :: tables_1) room_1).applies x e0.platform about1 = true :=
  (Spec.applies_iff w_frames).mpr ⟨w_running, w_runnable, w_alone, w_named, w_hears, w_ripe, w_room, w_tables⟩
theorem atStart : AtStart classFile x code maxLocals ret World_1 tables_1 room_1 Calls_1 rest_1 Pre_1 launch0 p0 e0 about1 theMethod args0 below0 :=
  ⟨lists_1, trivial, launch0.admits_env _ _ _, launch0.least_env, fairChoices_fair.cas, fairChoices_fair.clock, w_frames, w_args, w_heap, w_applies, trivial, trivial, w_case⟩
end start1
theorem witness_1 : WitnessClaimed_1 := ⟨start1.p0, start1.e0, start1.about1, start1.theMethod, start1.args0, start1.below0, start1.atStart⟩
end Jvm.Pilot.@@N@@
