import JvmDerived
import JvmDerived.Pilot.@@N@@Statement
import JvmDerived.Pilot.@@N@@Code
set_option linter.unusedVariables false
set_option linter.unusedSimpArgs false
namespace Jvm.RoadKit
open Sem ClassFile Op Lib Jvm.Stand Jvm.Free Jvm.LawKit
section New
variable {p : Program} {l : Launch} {e : Env} {R : Room} {s : State} {m : MethodId} {args : Array Value} {below : List Frame} {meth : Method} {c : Code} {T : State} {locs : List Loc} {cells slots : Nat}
theorem retI (X : Stand p l e R s m args below meth c T locs cells slots) (hx : p.tables.exec = Jvm.exec) {pc : Nat} {Ls : Array Slot} {z : Int32} {rest : List Value} (hret : meth.sig.returnType = some .int) (hd : decode c.code pc = .ok (.ireturn, 1)) {fs : List Frame}
    (hl : ∀ (f : JFrame) (acts : List Action), f.method = m → f.locked = none → f.entered = [] → (doReturn e (T.setTop f) acts (some (.int z))).1 = T.setFrames fs) : Steps p.tables e below (T.setTop (mkF m pc Ls (.int z :: rest))) (T.setFrames fs) := by
  have hm' : T.vm.method? m = some meth := X.method'
  have hn : narrow .int (.int z) = .int z := rfl
  show Steps p.tables e below (T.setTop { method := m, pc := pc, locals := Ls, stack := _ :: rest, locked := none }) _
  jvm_step X.here [X.here.top, hx, hd, hm', hret, hn]
  first | (intro acts; rw [hl _ acts rfl rfl rfl]) | rw [hl _ _ rfl rfl rfl]
  exact Steps.refl _
end New
end Jvm.RoadKit
namespace Jvm.Pilot.@@N@@
open Jvm Jvm.ClassFile Sem Op Lib Jvm.Free Jvm.Stand Jvm.LawKit Jvm.RoadKit Bundle Jvm.Pilot.@@N@@.Jvm.D
theorem own_imod (x y : Int32) : x - (x / y) * y = x % y := by
  have hd : x / y = Int32.ofInt (x.toInt.tdiv y.toInt) := Int32.toInt_inj.mp (by rw [Int32.toInt_div, Int32.toInt_ofInt])
  have hm : x % y = Int32.ofInt (x.toInt.tmod y.toInt) := by rw [← Int32.toInt_mod, Int32.ofInt_toInt]
  have e := Int.tmod_add_mul_tdiv x.toInt y.toInt
  have e2 : x.toInt.tmod y.toInt = x.toInt - x.toInt.tdiv y.toInt * y.toInt := by rw [Int.mul_comm (x.toInt.tdiv y.toInt)]; omega
  rw [hm, e2, Int32.ofInt_sub, Int32.ofInt_mul, Int32.ofInt_toInt, Int32.ofInt_toInt, ← hd]
theorem own_irem {tb : Tables} [Ours tb] {e : Env} {below : List Frame} {T target : State} {m : MethodId} {c : Code} {g : JFrame} (h : At T m c below) (hx : tb.exec = Jvm.exec) (hg : g.method = m) {x y : Int32} {rest : List Value} (hd : decode c.code g.pc = .ok (.irem, 1)) (hs : g.stack = .int y :: .int x :: rest) (hy : y ≠ 0) (hr : Steps tb e below (T.setTop { g with pc := g.pc + 1, stack := .int (x % y) :: rest }) target) : Steps tb e below (T.setTop g) target := XS.irem h hx hg hd hs hy (by rw [own_imod]; exact hr)
def own_Qr (h0 : Heap) (n0 : Nat) (r : Value) (v : Option Value) (h : Heap) (L : List Loc) : Prop := v = some r ∧ Fr n0 L ∧ h = h0
theorem own_m16 (x : Int32) : x &&& 15 = 0 ∨ x &&& 15 = 1 ∨ x &&& 15 = 2 ∨ x &&& 15 = 3 ∨ x &&& 15 = 4 ∨ x &&& 15 = 5 ∨ x &&& 15 = 6 ∨ x &&& 15 = 7 ∨ x &&& 15 = 8 ∨ x &&& 15 = 9 ∨ x &&& 15 = 10 ∨ x &&& 15 = 11 ∨ x &&& 15 = 12 ∨ x &&& 15 = 13 ∨ x &&& 15 = 14 ∨ x &&& 15 = 15 := by
  have h : (x &&& 15).toBitVec.toNat < 16 := by
    show (x.toBitVec &&& 15#32).toNat < 16
    rw [BitVec.toNat_and]
    exact Nat.lt_of_le_of_lt Nat.and_le_right (by decide)
  have key : ∀ k : Nat, k < 16 → (x &&& 15).toBitVec.toNat = k → x &&& 15 = Int32.ofNat k := by
    intro k hk e
    apply Int32.toBitVec_inj.mp
    apply BitVec.eq_of_toNat_eq
    rw [e]
    show k = (BitVec.ofNat 32 k).toNat
    rw [BitVec.toNat_ofNat]; omega
  generalize (x &&& 15).toBitVec.toNat = j at h key
  match j, h with
  | 0, _ => exact Or.inl (key 0 (by decide) rfl)
  | 1, _ => exact Or.inr (Or.inl (key 1 (by decide) rfl))
  | 2, _ => exact Or.inr (Or.inr (Or.inl (key 2 (by decide) rfl)))
  | 3, _ => exact Or.inr (Or.inr (Or.inr (Or.inl (key 3 (by decide) rfl))))
  | 4, _ => exact Or.inr (Or.inr (Or.inr (Or.inr (Or.inl (key 4 (by decide) rfl)))))
  | 5, _ => exact Or.inr (Or.inr (Or.inr (Or.inr (Or.inr (Or.inl (key 5 (by decide) rfl))))))
  | 6, _ => exact Or.inr (Or.inr (Or.inr (Or.inr (Or.inr (Or.inr (Or.inl (key 6 (by decide) rfl)))))))
  | 7, _ => exact Or.inr (Or.inr (Or.inr (Or.inr (Or.inr (Or.inr (Or.inr (Or.inl (key 7 (by decide) rfl))))))))
  | 8, _ => exact Or.inr (Or.inr (Or.inr (Or.inr (Or.inr (Or.inr (Or.inr (Or.inr (Or.inl (key 8 (by decide) rfl)))))))))
  | 9, _ => exact Or.inr (Or.inr (Or.inr (Or.inr (Or.inr (Or.inr (Or.inr (Or.inr (Or.inr (Or.inl (key 9 (by decide) rfl))))))))))
  | 10, _ => exact Or.inr (Or.inr (Or.inr (Or.inr (Or.inr (Or.inr (Or.inr (Or.inr (Or.inr (Or.inr (Or.inl (key 10 (by decide) rfl)))))))))))
  | 11, _ => exact Or.inr (Or.inr (Or.inr (Or.inr (Or.inr (Or.inr (Or.inr (Or.inr (Or.inr (Or.inr (Or.inr (Or.inl (key 11 (by decide) rfl))))))))))))
  | 12, _ => exact Or.inr (Or.inr (Or.inr (Or.inr (Or.inr (Or.inr (Or.inr (Or.inr (Or.inr (Or.inr (Or.inr (Or.inr (Or.inl (key 12 (by decide) rfl)))))))))))))
  | 13, _ => exact Or.inr (Or.inr (Or.inr (Or.inr (Or.inr (Or.inr (Or.inr (Or.inr (Or.inr (Or.inr (Or.inr (Or.inr (Or.inr (Or.inl (key 13 (by decide) rfl))))))))))))))
  | 14, _ => exact Or.inr (Or.inr (Or.inr (Or.inr (Or.inr (Or.inr (Or.inr (Or.inr (Or.inr (Or.inr (Or.inr (Or.inr (Or.inr (Or.inr (Or.inl (key 14 (by decide) rfl)))))))))))))))
  | 15, _ => exact Or.inr (Or.inr (Or.inr (Or.inr (Or.inr (Or.inr (Or.inr (Or.inr (Or.inr (Or.inr (Or.inr (Or.inr (Or.inr (Or.inr (Or.inr ((key 15 (by decide) rfl))))))))))))))))
  | k + 16, h => exact absurd h (by omega)
theorem d1_0 : decode prog_19_method_7_code 0 = .ok (.iload_n 0, 1) := by decide +kernel
theorem d1_1 : decode prog_19_method_7_code 1 = .ok (.iconst 4, 1) := by decide +kernel
theorem d1_2 : decode prog_19_method_7_code 2 = .ok (.idiv, 1) := by decide +kernel
theorem d1_3 : decode prog_19_method_7_code 3 = .ok (.istore_n 1, 1) := by decide +kernel
theorem d1_4 : decode prog_19_method_7_code 4 = .ok (.iload_n 0, 1) := by decide +kernel
theorem d1_5 : decode prog_19_method_7_code 5 = .ok (.iconst 4, 1) := by decide +kernel
theorem d1_6 : decode prog_19_method_7_code 6 = .ok (.irem, 1) := by decide +kernel
theorem d1_7 : decode prog_19_method_7_code 7 = .ok (.istore_n 2, 1) := by decide +kernel
theorem d1_8 : decode prog_19_method_7_code 8 = .ok (.iload_n 1, 1) := by decide +kernel
theorem d1_9 : decode prog_19_method_7_code 9 = .ok (.ifCond .eq 17, 3) := by decide +kernel
theorem d1_26 : decode prog_19_method_7_code 26 = .ok (.iconst 1, 1) := by decide +kernel
theorem d1_27 : decode prog_19_method_7_code 27 = .ok (.goto 4, 3) := by decide +kernel
theorem d1_31 : decode prog_19_method_7_code 31 = .ok (.ireturn, 1) := by decide +kernel
theorem pn_1 : plainName "com/example/cardwright/cardwright/games/okiya/Garden" = true := by first | (simp [plainName, overriddenIn]; done) | decide +kernel
theorem ef_1 (m : MethodId) (x0 : Int32) : entryFrame m #[(.int x0)] 3 = mkF m 0 #[.val (.int x0), .unset, .unset] [] := by first | (simp [entryFrame, mkF, argsToLocals, Value.category]; done) | rfl
def Q1a (Z : State) (p1 : Int32) (h0 : Heap) (n0 : Nat) (v : Option Value) (h : Heap) (L : List Loc) : Prop := v = some (.int (1 : Int32)) ∧ Fr n0 L ∧ h = h0
set_option maxRecDepth 65536 in
set_option maxHeartbeats 40000000 in
theorem rm1a (l : Launch) (Z : State) (a0 : Array Value) (hw : ∀ d ∈ tables_1, d.before a0 Z = true) (ws : List Jvm.Cond) (p1 : Int32) (h0 : Heap) (n0 : Nat) (Z0 : n0 ≤ h0.size) (hnz2 : ¬ ((4 : Int32) = (0 : Int32))) (hnz6 : ¬ ((4 : Int32) = (0 : Int32))) (hc9 : (p1 / (4 : Int32)) = (0 : Int32)) :
    MetFree l (⟨"com/example/cardwright/cardwright/games/okiya/Garden", "onBorder", "(I)Z"⟩ : MethodName) (head1 (Jvm.Cond.code (⟨"com/example/cardwright/cardwright/games/okiya/Garden", "onBorder", "(I)Z"⟩ : MethodName) prog_19_method_7_code 3 (some .boolean) :: ws) ({ frames := 0, cells := 0, slots := 0, locals := 0 } : Room)) (fun a U => a = #[(.int p1)] ∧ Z.Warmed39 U.vm ∧ U.heap = h0) (fun _ _ _ _ _ => True) (fun _ U o U' => ∃ v L, o = .returned v ∧ Q1a Z p1 h0 n0 v U'.heap L ∧ FrameEnd U o U' L ({ frames := 0, cells := 0, slots := 0, locals := 0 } : Room).cells ({ frames := 0, cells := 0, slots := 0, locals := 0 } : Room).slots) := by
  refine MetFree.of_bodySF (plainFor_of_name pn_1) hisR ?_
  intro p e s m args below meth c s₁ Bd hml0 hP hK
  obtain ⟨rfl, hZ, hh⟩ := hP
  have hx := Bd.exec
  have hby := Bd.bytes
  have hml : c.maxLocals = 3 := hml0
  have hown : s.vm.findClass "com/example/cardwright/cardwright/games/okiya/Garden" = some m.cls := findClass_of_methodNamed Bd.named
  have hnm := (name_of_methodNamed Bd.named Bd.method).1
  have X0 : Stand p l e ({ frames := 0, cells := 0, slots := 0, locals := 0 } : Room) s m #[(.int p1)] below meth c s₁ [] 0 0 := Stand.of_body Bd
  have e0 : s₁.heap = h0 := by rw [← hh, Bd.state]; rfl
  have N0 := Fr.nil n0
  have pre0 : ∀ t, Steps p.tables e below (s₁.setTop (mkF m 0 #[.val (.int p1), .unset, .unset] [])) t → Steps p.tables e below (s₁.setTop (entryFrame m #[(.int p1)] 3)) t := fun t k => castTop (ef_1 m p1) k

  obtain ⟨fs, hr, hrun, hended, hW, hsame⟩ := X0.leave (v := some (.int (1 : Int32))) (fun h => by rw [Bd.returns] at h; cases h)
  refine ⟨_, _, pre0 _ ?_, hrun, hended, _, _, rfl, ?_, ⟨_, rfl⟩, hW, hsame.mono (by decide) (by decide)⟩
  · show Steps p.tables e below (s₁.setTop (mkF m 0 #[.val (.int p1), .unset, .unset] [])) _
    refine XS.iloadN X0.here hx rfl (hb hby d1_0) rfl ?_
    show Steps p.tables e below (s₁.setTop (mkF m 1 #[.val (.int p1), .unset, .unset] [(.int p1)])) _
    refine XS.iconst X0.here hx rfl (hb hby d1_1) ?_
    show Steps p.tables e below (s₁.setTop (mkF m 2 #[.val (.int p1), .unset, .unset] [(.int (4 : Int32)), (.int p1)])) _
    refine XS.idiv X0.here hx rfl (hb hby d1_2) rfl hnz2 ?_
    show Steps p.tables e below (s₁.setTop (mkF m 3 #[.val (.int p1), .unset, .unset] [(.int (p1 / (4 : Int32)))])) _
    refine XS.istoreN X0.here hx rfl (hb hby d1_3) rfl (l' := #[.val (.int p1), .val (.int (p1 / (4 : Int32))), .unset]) rfl ?_
    show Steps p.tables e below (s₁.setTop (mkF m 4 #[.val (.int p1), .val (.int (p1 / (4 : Int32))), .unset] [])) _
    refine XS.iloadN X0.here hx rfl (hb hby d1_4) rfl ?_
    show Steps p.tables e below (s₁.setTop (mkF m 5 #[.val (.int p1), .val (.int (p1 / (4 : Int32))), .unset] [(.int p1)])) _
    refine XS.iconst X0.here hx rfl (hb hby d1_5) ?_
    show Steps p.tables e below (s₁.setTop (mkF m 6 #[.val (.int p1), .val (.int (p1 / (4 : Int32))), .unset] [(.int (4 : Int32)), (.int p1)])) _
    refine own_irem X0.here hx rfl (hb hby d1_6) rfl hnz6 ?_
    show Steps p.tables e below (s₁.setTop (mkF m 7 #[.val (.int p1), .val (.int (p1 / (4 : Int32))), .unset] [(.int (p1 % (4 : Int32)))])) _
    refine XS.istoreN X0.here hx rfl (hb hby d1_7) rfl (l' := #[.val (.int p1), .val (.int (p1 / (4 : Int32))), .val (.int (p1 % (4 : Int32)))]) rfl ?_
    show Steps p.tables e below (s₁.setTop (mkF m 8 #[.val (.int p1), .val (.int (p1 / (4 : Int32))), .val (.int (p1 % (4 : Int32)))] [])) _
    refine XS.iloadN X0.here hx rfl (hb hby d1_8) rfl ?_
    show Steps p.tables e below (s₁.setTop (mkF m 9 #[.val (.int p1), .val (.int (p1 / (4 : Int32))), .val (.int (p1 % (4 : Int32)))] [(.int (p1 / (4 : Int32)))])) _
    refine XS.ifYes X0.here hx rfl (pc0 := 9) (pc' := 26) rfl (hb hby d1_9) rfl ((if0 _ _).trans (teq hc9).1) (by decide) (by decide) ?_
    show Steps p.tables e below (s₁.setTop (mkF m 26 #[.val (.int p1), .val (.int (p1 / (4 : Int32))), .val (.int (p1 % (4 : Int32)))] [])) _
    refine XS.iconst X0.here hx rfl (hb hby d1_26) ?_
    show Steps p.tables e below (s₁.setTop (mkF m 27 #[.val (.int p1), .val (.int (p1 / (4 : Int32))), .val (.int (p1 % (4 : Int32)))] [(.int (1 : Int32))])) _
    refine XS.goto X0.here hx rfl (pc0 := 27) (pc' := 31) rfl (hb hby d1_27) (by decide) (by decide) ?_
    show Steps p.tables e below (s₁.setTop (mkF m 31 #[.val (.int p1), .val (.int (p1 / (4 : Int32))), .val (.int (p1 % (4 : Int32)))] [(.int (1 : Int32))])) _
    exact retN X0 hx (t := .boolean) Bd.returns (by simp) (hb hby d1_31) hr
  · show Q1a Z p1 h0 n0 _ s₁.heap _
    rw [e0]
    exact ⟨rfl, N0, rfl⟩
theorem d1_12 : decode prog_19_method_7_code 12 = .ok (.iload_n 1, 1) := by decide +kernel
theorem d1_13 : decode prog_19_method_7_code 13 = .ok (.iconst 3, 1) := by decide +kernel
theorem d1_14 : decode prog_19_method_7_code 14 = .ok (.if_icmp .eq 12, 3) := by decide +kernel
def Q1b (Z : State) (p1 : Int32) (h0 : Heap) (n0 : Nat) (v : Option Value) (h : Heap) (L : List Loc) : Prop := v = some (.int (1 : Int32)) ∧ Fr n0 L ∧ h = h0
set_option maxRecDepth 65536 in
set_option maxHeartbeats 40000000 in
theorem rm1b (l : Launch) (Z : State) (a0 : Array Value) (hw : ∀ d ∈ tables_1, d.before a0 Z = true) (ws : List Jvm.Cond) (p1 : Int32) (h0 : Heap) (n0 : Nat) (Z0 : n0 ≤ h0.size) (hnz2 : ¬ ((4 : Int32) = (0 : Int32))) (hnz6 : ¬ ((4 : Int32) = (0 : Int32))) (hc9 : ¬ ((p1 / (4 : Int32)) = (0 : Int32))) (hc14 : (p1 / (4 : Int32)) = (3 : Int32)) :
    MetFree l (⟨"com/example/cardwright/cardwright/games/okiya/Garden", "onBorder", "(I)Z"⟩ : MethodName) (head1 (Jvm.Cond.code (⟨"com/example/cardwright/cardwright/games/okiya/Garden", "onBorder", "(I)Z"⟩ : MethodName) prog_19_method_7_code 3 (some .boolean) :: ws) ({ frames := 0, cells := 0, slots := 0, locals := 0 } : Room)) (fun a U => a = #[(.int p1)] ∧ Z.Warmed39 U.vm ∧ U.heap = h0) (fun _ _ _ _ _ => True) (fun _ U o U' => ∃ v L, o = .returned v ∧ Q1b Z p1 h0 n0 v U'.heap L ∧ FrameEnd U o U' L ({ frames := 0, cells := 0, slots := 0, locals := 0 } : Room).cells ({ frames := 0, cells := 0, slots := 0, locals := 0 } : Room).slots) := by
  refine MetFree.of_bodySF (plainFor_of_name pn_1) hisR ?_
  intro p e s m args below meth c s₁ Bd hml0 hP hK
  obtain ⟨rfl, hZ, hh⟩ := hP
  have hx := Bd.exec
  have hby := Bd.bytes
  have hml : c.maxLocals = 3 := hml0
  have hown : s.vm.findClass "com/example/cardwright/cardwright/games/okiya/Garden" = some m.cls := findClass_of_methodNamed Bd.named
  have hnm := (name_of_methodNamed Bd.named Bd.method).1
  have X0 : Stand p l e ({ frames := 0, cells := 0, slots := 0, locals := 0 } : Room) s m #[(.int p1)] below meth c s₁ [] 0 0 := Stand.of_body Bd
  have e0 : s₁.heap = h0 := by rw [← hh, Bd.state]; rfl
  have N0 := Fr.nil n0
  have pre0 : ∀ t, Steps p.tables e below (s₁.setTop (mkF m 0 #[.val (.int p1), .unset, .unset] [])) t → Steps p.tables e below (s₁.setTop (entryFrame m #[(.int p1)] 3)) t := fun t k => castTop (ef_1 m p1) k

  obtain ⟨fs, hr, hrun, hended, hW, hsame⟩ := X0.leave (v := some (.int (1 : Int32))) (fun h => by rw [Bd.returns] at h; cases h)
  refine ⟨_, _, pre0 _ ?_, hrun, hended, _, _, rfl, ?_, ⟨_, rfl⟩, hW, hsame.mono (by decide) (by decide)⟩
  · show Steps p.tables e below (s₁.setTop (mkF m 0 #[.val (.int p1), .unset, .unset] [])) _
    refine XS.iloadN X0.here hx rfl (hb hby d1_0) rfl ?_
    show Steps p.tables e below (s₁.setTop (mkF m 1 #[.val (.int p1), .unset, .unset] [(.int p1)])) _
    refine XS.iconst X0.here hx rfl (hb hby d1_1) ?_
    show Steps p.tables e below (s₁.setTop (mkF m 2 #[.val (.int p1), .unset, .unset] [(.int (4 : Int32)), (.int p1)])) _
    refine XS.idiv X0.here hx rfl (hb hby d1_2) rfl hnz2 ?_
    show Steps p.tables e below (s₁.setTop (mkF m 3 #[.val (.int p1), .unset, .unset] [(.int (p1 / (4 : Int32)))])) _
    refine XS.istoreN X0.here hx rfl (hb hby d1_3) rfl (l' := #[.val (.int p1), .val (.int (p1 / (4 : Int32))), .unset]) rfl ?_
    show Steps p.tables e below (s₁.setTop (mkF m 4 #[.val (.int p1), .val (.int (p1 / (4 : Int32))), .unset] [])) _
    refine XS.iloadN X0.here hx rfl (hb hby d1_4) rfl ?_
    show Steps p.tables e below (s₁.setTop (mkF m 5 #[.val (.int p1), .val (.int (p1 / (4 : Int32))), .unset] [(.int p1)])) _
    refine XS.iconst X0.here hx rfl (hb hby d1_5) ?_
    show Steps p.tables e below (s₁.setTop (mkF m 6 #[.val (.int p1), .val (.int (p1 / (4 : Int32))), .unset] [(.int (4 : Int32)), (.int p1)])) _
    refine own_irem X0.here hx rfl (hb hby d1_6) rfl hnz6 ?_
    show Steps p.tables e below (s₁.setTop (mkF m 7 #[.val (.int p1), .val (.int (p1 / (4 : Int32))), .unset] [(.int (p1 % (4 : Int32)))])) _
    refine XS.istoreN X0.here hx rfl (hb hby d1_7) rfl (l' := #[.val (.int p1), .val (.int (p1 / (4 : Int32))), .val (.int (p1 % (4 : Int32)))]) rfl ?_
    show Steps p.tables e below (s₁.setTop (mkF m 8 #[.val (.int p1), .val (.int (p1 / (4 : Int32))), .val (.int (p1 % (4 : Int32)))] [])) _
    refine XS.iloadN X0.here hx rfl (hb hby d1_8) rfl ?_
    show Steps p.tables e below (s₁.setTop (mkF m 9 #[.val (.int p1), .val (.int (p1 / (4 : Int32))), .val (.int (p1 % (4 : Int32)))] [(.int (p1 / (4 : Int32)))])) _
    refine XS.ifNo X0.here hx rfl (hb hby d1_9) rfl ((if0 _ _).trans (feq hc9).1) ?_
    show Steps p.tables e below (s₁.setTop (mkF m 12 #[.val (.int p1), .val (.int (p1 / (4 : Int32))), .val (.int (p1 % (4 : Int32)))] [])) _
    refine XS.iloadN X0.here hx rfl (hb hby d1_12) rfl ?_
    show Steps p.tables e below (s₁.setTop (mkF m 13 #[.val (.int p1), .val (.int (p1 / (4 : Int32))), .val (.int (p1 % (4 : Int32)))] [(.int (p1 / (4 : Int32)))])) _
    refine XS.iconst X0.here hx rfl (hb hby d1_13) ?_
    show Steps p.tables e below (s₁.setTop (mkF m 14 #[.val (.int p1), .val (.int (p1 / (4 : Int32))), .val (.int (p1 % (4 : Int32)))] [(.int (3 : Int32)), (.int (p1 / (4 : Int32)))])) _
    refine XS.icmpYes X0.here hx rfl (pc0 := 14) (pc' := 26) rfl (hb hby d1_14) rfl (teq hc14).1 (by decide) (by decide) ?_
    show Steps p.tables e below (s₁.setTop (mkF m 26 #[.val (.int p1), .val (.int (p1 / (4 : Int32))), .val (.int (p1 % (4 : Int32)))] [])) _
    refine XS.iconst X0.here hx rfl (hb hby d1_26) ?_
    show Steps p.tables e below (s₁.setTop (mkF m 27 #[.val (.int p1), .val (.int (p1 / (4 : Int32))), .val (.int (p1 % (4 : Int32)))] [(.int (1 : Int32))])) _
    refine XS.goto X0.here hx rfl (pc0 := 27) (pc' := 31) rfl (hb hby d1_27) (by decide) (by decide) ?_
    show Steps p.tables e below (s₁.setTop (mkF m 31 #[.val (.int p1), .val (.int (p1 / (4 : Int32))), .val (.int (p1 % (4 : Int32)))] [(.int (1 : Int32))])) _
    exact retN X0 hx (t := .boolean) Bd.returns (by simp) (hb hby d1_31) hr
  · show Q1b Z p1 h0 n0 _ s₁.heap _
    rw [e0]
    exact ⟨rfl, N0, rfl⟩
theorem d1_17 : decode prog_19_method_7_code 17 = .ok (.iload_n 2, 1) := by decide +kernel
theorem d1_18 : decode prog_19_method_7_code 18 = .ok (.ifCond .eq 8, 3) := by decide +kernel
def Q1c (Z : State) (p1 : Int32) (h0 : Heap) (n0 : Nat) (v : Option Value) (h : Heap) (L : List Loc) : Prop := v = some (.int (1 : Int32)) ∧ Fr n0 L ∧ h = h0
set_option maxRecDepth 65536 in
set_option maxHeartbeats 40000000 in
theorem rm1c (l : Launch) (Z : State) (a0 : Array Value) (hw : ∀ d ∈ tables_1, d.before a0 Z = true) (ws : List Jvm.Cond) (p1 : Int32) (h0 : Heap) (n0 : Nat) (Z0 : n0 ≤ h0.size) (hnz2 : ¬ ((4 : Int32) = (0 : Int32))) (hnz6 : ¬ ((4 : Int32) = (0 : Int32))) (hc9 : ¬ ((p1 / (4 : Int32)) = (0 : Int32))) (hc14 : ¬ ((p1 / (4 : Int32)) = (3 : Int32))) (hc18 : (p1 % (4 : Int32)) = (0 : Int32)) :
    MetFree l (⟨"com/example/cardwright/cardwright/games/okiya/Garden", "onBorder", "(I)Z"⟩ : MethodName) (head1 (Jvm.Cond.code (⟨"com/example/cardwright/cardwright/games/okiya/Garden", "onBorder", "(I)Z"⟩ : MethodName) prog_19_method_7_code 3 (some .boolean) :: ws) ({ frames := 0, cells := 0, slots := 0, locals := 0 } : Room)) (fun a U => a = #[(.int p1)] ∧ Z.Warmed39 U.vm ∧ U.heap = h0) (fun _ _ _ _ _ => True) (fun _ U o U' => ∃ v L, o = .returned v ∧ Q1c Z p1 h0 n0 v U'.heap L ∧ FrameEnd U o U' L ({ frames := 0, cells := 0, slots := 0, locals := 0 } : Room).cells ({ frames := 0, cells := 0, slots := 0, locals := 0 } : Room).slots) := by
  refine MetFree.of_bodySF (plainFor_of_name pn_1) hisR ?_
  intro p e s m args below meth c s₁ Bd hml0 hP hK
  obtain ⟨rfl, hZ, hh⟩ := hP
  have hx := Bd.exec
  have hby := Bd.bytes
  have hml : c.maxLocals = 3 := hml0
  have hown : s.vm.findClass "com/example/cardwright/cardwright/games/okiya/Garden" = some m.cls := findClass_of_methodNamed Bd.named
  have hnm := (name_of_methodNamed Bd.named Bd.method).1
  have X0 : Stand p l e ({ frames := 0, cells := 0, slots := 0, locals := 0 } : Room) s m #[(.int p1)] below meth c s₁ [] 0 0 := Stand.of_body Bd
  have e0 : s₁.heap = h0 := by rw [← hh, Bd.state]; rfl
  have N0 := Fr.nil n0
  have pre0 : ∀ t, Steps p.tables e below (s₁.setTop (mkF m 0 #[.val (.int p1), .unset, .unset] [])) t → Steps p.tables e below (s₁.setTop (entryFrame m #[(.int p1)] 3)) t := fun t k => castTop (ef_1 m p1) k

  obtain ⟨fs, hr, hrun, hended, hW, hsame⟩ := X0.leave (v := some (.int (1 : Int32))) (fun h => by rw [Bd.returns] at h; cases h)
  refine ⟨_, _, pre0 _ ?_, hrun, hended, _, _, rfl, ?_, ⟨_, rfl⟩, hW, hsame.mono (by decide) (by decide)⟩
  · show Steps p.tables e below (s₁.setTop (mkF m 0 #[.val (.int p1), .unset, .unset] [])) _
    refine XS.iloadN X0.here hx rfl (hb hby d1_0) rfl ?_
    show Steps p.tables e below (s₁.setTop (mkF m 1 #[.val (.int p1), .unset, .unset] [(.int p1)])) _
    refine XS.iconst X0.here hx rfl (hb hby d1_1) ?_
    show Steps p.tables e below (s₁.setTop (mkF m 2 #[.val (.int p1), .unset, .unset] [(.int (4 : Int32)), (.int p1)])) _
    refine XS.idiv X0.here hx rfl (hb hby d1_2) rfl hnz2 ?_
    show Steps p.tables e below (s₁.setTop (mkF m 3 #[.val (.int p1), .unset, .unset] [(.int (p1 / (4 : Int32)))])) _
    refine XS.istoreN X0.here hx rfl (hb hby d1_3) rfl (l' := #[.val (.int p1), .val (.int (p1 / (4 : Int32))), .unset]) rfl ?_
    show Steps p.tables e below (s₁.setTop (mkF m 4 #[.val (.int p1), .val (.int (p1 / (4 : Int32))), .unset] [])) _
    refine XS.iloadN X0.here hx rfl (hb hby d1_4) rfl ?_
    show Steps p.tables e below (s₁.setTop (mkF m 5 #[.val (.int p1), .val (.int (p1 / (4 : Int32))), .unset] [(.int p1)])) _
    refine XS.iconst X0.here hx rfl (hb hby d1_5) ?_
    show Steps p.tables e below (s₁.setTop (mkF m 6 #[.val (.int p1), .val (.int (p1 / (4 : Int32))), .unset] [(.int (4 : Int32)), (.int p1)])) _
    refine own_irem X0.here hx rfl (hb hby d1_6) rfl hnz6 ?_
    show Steps p.tables e below (s₁.setTop (mkF m 7 #[.val (.int p1), .val (.int (p1 / (4 : Int32))), .unset] [(.int (p1 % (4 : Int32)))])) _
    refine XS.istoreN X0.here hx rfl (hb hby d1_7) rfl (l' := #[.val (.int p1), .val (.int (p1 / (4 : Int32))), .val (.int (p1 % (4 : Int32)))]) rfl ?_
    show Steps p.tables e below (s₁.setTop (mkF m 8 #[.val (.int p1), .val (.int (p1 / (4 : Int32))), .val (.int (p1 % (4 : Int32)))] [])) _
    refine XS.iloadN X0.here hx rfl (hb hby d1_8) rfl ?_
    show Steps p.tables e below (s₁.setTop (mkF m 9 #[.val (.int p1), .val (.int (p1 / (4 : Int32))), .val (.int (p1 % (4 : Int32)))] [(.int (p1 / (4 : Int32)))])) _
    refine XS.ifNo X0.here hx rfl (hb hby d1_9) rfl ((if0 _ _).trans (feq hc9).1) ?_
    show Steps p.tables e below (s₁.setTop (mkF m 12 #[.val (.int p1), .val (.int (p1 / (4 : Int32))), .val (.int (p1 % (4 : Int32)))] [])) _
    refine XS.iloadN X0.here hx rfl (hb hby d1_12) rfl ?_
    show Steps p.tables e below (s₁.setTop (mkF m 13 #[.val (.int p1), .val (.int (p1 / (4 : Int32))), .val (.int (p1 % (4 : Int32)))] [(.int (p1 / (4 : Int32)))])) _
    refine XS.iconst X0.here hx rfl (hb hby d1_13) ?_
    show Steps p.tables e below (s₁.setTop (mkF m 14 #[.val (.int p1), .val (.int (p1 / (4 : Int32))), .val (.int (p1 % (4 : Int32)))] [(.int (3 : Int32)), (.int (p1 / (4 : Int32)))])) _
    refine XS.icmpNo X0.here hx rfl (hb hby d1_14) rfl (feq hc14).1 ?_
    show Steps p.tables e below (s₁.setTop (mkF m 17 #[.val (.int p1), .val (.int (p1 / (4 : Int32))), .val (.int (p1 % (4 : Int32)))] [])) _
    refine XS.iloadN X0.here hx rfl (hb hby d1_17) rfl ?_
    show Steps p.tables e below (s₁.setTop (mkF m 18 #[.val (.int p1), .val (.int (p1 / (4 : Int32))), .val (.int (p1 % (4 : Int32)))] [(.int (p1 % (4 : Int32)))])) _
    refine XS.ifYes X0.here hx rfl (pc0 := 18) (pc' := 26) rfl (hb hby d1_18) rfl ((if0 _ _).trans (teq hc18).1) (by decide) (by decide) ?_
    show Steps p.tables e below (s₁.setTop (mkF m 26 #[.val (.int p1), .val (.int (p1 / (4 : Int32))), .val (.int (p1 % (4 : Int32)))] [])) _
    refine XS.iconst X0.here hx rfl (hb hby d1_26) ?_
    show Steps p.tables e below (s₁.setTop (mkF m 27 #[.val (.int p1), .val (.int (p1 / (4 : Int32))), .val (.int (p1 % (4 : Int32)))] [(.int (1 : Int32))])) _
    refine XS.goto X0.here hx rfl (pc0 := 27) (pc' := 31) rfl (hb hby d1_27) (by decide) (by decide) ?_
    show Steps p.tables e below (s₁.setTop (mkF m 31 #[.val (.int p1), .val (.int (p1 / (4 : Int32))), .val (.int (p1 % (4 : Int32)))] [(.int (1 : Int32))])) _
    exact retN X0 hx (t := .boolean) Bd.returns (by simp) (hb hby d1_31) hr
  · show Q1c Z p1 h0 n0 _ s₁.heap _
    rw [e0]
    exact ⟨rfl, N0, rfl⟩
theorem d1_21 : decode prog_19_method_7_code 21 = .ok (.iload_n 2, 1) := by decide +kernel
theorem d1_22 : decode prog_19_method_7_code 22 = .ok (.iconst 3, 1) := by decide +kernel
theorem d1_23 : decode prog_19_method_7_code 23 = .ok (.if_icmp .ne 7, 3) := by decide +kernel
def Q1d (Z : State) (p1 : Int32) (h0 : Heap) (n0 : Nat) (v : Option Value) (h : Heap) (L : List Loc) : Prop := v = some (.int (1 : Int32)) ∧ Fr n0 L ∧ h = h0
set_option maxRecDepth 65536 in
set_option maxHeartbeats 40000000 in
theorem rm1d (l : Launch) (Z : State) (a0 : Array Value) (hw : ∀ d ∈ tables_1, d.before a0 Z = true) (ws : List Jvm.Cond) (p1 : Int32) (h0 : Heap) (n0 : Nat) (Z0 : n0 ≤ h0.size) (hnz2 : ¬ ((4 : Int32) = (0 : Int32))) (hnz6 : ¬ ((4 : Int32) = (0 : Int32))) (hc9 : ¬ ((p1 / (4 : Int32)) = (0 : Int32))) (hc14 : ¬ ((p1 / (4 : Int32)) = (3 : Int32))) (hc18 : ¬ ((p1 % (4 : Int32)) = (0 : Int32))) (hc23 : (p1 % (4 : Int32)) = (3 : Int32)) :
    MetFree l (⟨"com/example/cardwright/cardwright/games/okiya/Garden", "onBorder", "(I)Z"⟩ : MethodName) (head1 (Jvm.Cond.code (⟨"com/example/cardwright/cardwright/games/okiya/Garden", "onBorder", "(I)Z"⟩ : MethodName) prog_19_method_7_code 3 (some .boolean) :: ws) ({ frames := 0, cells := 0, slots := 0, locals := 0 } : Room)) (fun a U => a = #[(.int p1)] ∧ Z.Warmed39 U.vm ∧ U.heap = h0) (fun _ _ _ _ _ => True) (fun _ U o U' => ∃ v L, o = .returned v ∧ Q1d Z p1 h0 n0 v U'.heap L ∧ FrameEnd U o U' L ({ frames := 0, cells := 0, slots := 0, locals := 0 } : Room).cells ({ frames := 0, cells := 0, slots := 0, locals := 0 } : Room).slots) := by
  refine MetFree.of_bodySF (plainFor_of_name pn_1) hisR ?_
  intro p e s m args below meth c s₁ Bd hml0 hP hK
  obtain ⟨rfl, hZ, hh⟩ := hP
  have hx := Bd.exec
  have hby := Bd.bytes
  have hml : c.maxLocals = 3 := hml0
  have hown : s.vm.findClass "com/example/cardwright/cardwright/games/okiya/Garden" = some m.cls := findClass_of_methodNamed Bd.named
  have hnm := (name_of_methodNamed Bd.named Bd.method).1
  have X0 : Stand p l e ({ frames := 0, cells := 0, slots := 0, locals := 0 } : Room) s m #[(.int p1)] below meth c s₁ [] 0 0 := Stand.of_body Bd
  have e0 : s₁.heap = h0 := by rw [← hh, Bd.state]; rfl
  have N0 := Fr.nil n0
  have pre0 : ∀ t, Steps p.tables e below (s₁.setTop (mkF m 0 #[.val (.int p1), .unset, .unset] [])) t → Steps p.tables e below (s₁.setTop (entryFrame m #[(.int p1)] 3)) t := fun t k => castTop (ef_1 m p1) k

  obtain ⟨fs, hr, hrun, hended, hW, hsame⟩ := X0.leave (v := some (.int (1 : Int32))) (fun h => by rw [Bd.returns] at h; cases h)
  refine ⟨_, _, pre0 _ ?_, hrun, hended, _, _, rfl, ?_, ⟨_, rfl⟩, hW, hsame.mono (by decide) (by decide)⟩
  · show Steps p.tables e below (s₁.setTop (mkF m 0 #[.val (.int p1), .unset, .unset] [])) _
    refine XS.iloadN X0.here hx rfl (hb hby d1_0) rfl ?_
    show Steps p.tables e below (s₁.setTop (mkF m 1 #[.val (.int p1), .unset, .unset] [(.int p1)])) _
    refine XS.iconst X0.here hx rfl (hb hby d1_1) ?_
    show Steps p.tables e below (s₁.setTop (mkF m 2 #[.val (.int p1), .unset, .unset] [(.int (4 : Int32)), (.int p1)])) _
    refine XS.idiv X0.here hx rfl (hb hby d1_2) rfl hnz2 ?_
    show Steps p.tables e below (s₁.setTop (mkF m 3 #[.val (.int p1), .unset, .unset] [(.int (p1 / (4 : Int32)))])) _
    refine XS.istoreN X0.here hx rfl (hb hby d1_3) rfl (l' := #[.val (.int p1), .val (.int (p1 / (4 : Int32))), .unset]) rfl ?_
    show Steps p.tables e below (s₁.setTop (mkF m 4 #[.val (.int p1), .val (.int (p1 / (4 : Int32))), .unset] [])) _
    refine XS.iloadN X0.here hx rfl (hb hby d1_4) rfl ?_
    show Steps p.tables e below (s₁.setTop (mkF m 5 #[.val (.int p1), .val (.int (p1 / (4 : Int32))), .unset] [(.int p1)])) _
    refine XS.iconst X0.here hx rfl (hb hby d1_5) ?_
    show Steps p.tables e below (s₁.setTop (mkF m 6 #[.val (.int p1), .val (.int (p1 / (4 : Int32))), .unset] [(.int (4 : Int32)), (.int p1)])) _
    refine own_irem X0.here hx rfl (hb hby d1_6) rfl hnz6 ?_
    show Steps p.tables e below (s₁.setTop (mkF m 7 #[.val (.int p1), .val (.int (p1 / (4 : Int32))), .unset] [(.int (p1 % (4 : Int32)))])) _
    refine XS.istoreN X0.here hx rfl (hb hby d1_7) rfl (l' := #[.val (.int p1), .val (.int (p1 / (4 : Int32))), .val (.int (p1 % (4 : Int32)))]) rfl ?_
    show Steps p.tables e below (s₁.setTop (mkF m 8 #[.val (.int p1), .val (.int (p1 / (4 : Int32))), .val (.int (p1 % (4 : Int32)))] [])) _
    refine XS.iloadN X0.here hx rfl (hb hby d1_8) rfl ?_
    show Steps p.tables e below (s₁.setTop (mkF m 9 #[.val (.int p1), .val (.int (p1 / (4 : Int32))), .val (.int (p1 % (4 : Int32)))] [(.int (p1 / (4 : Int32)))])) _
    refine XS.ifNo X0.here hx rfl (hb hby d1_9) rfl ((if0 _ _).trans (feq hc9).1) ?_
    show Steps p.tables e below (s₁.setTop (mkF m 12 #[.val (.int p1), .val (.int (p1 / (4 : Int32))), .val (.int (p1 % (4 : Int32)))] [])) _
    refine XS.iloadN X0.here hx rfl (hb hby d1_12) rfl ?_
    show Steps p.tables e below (s₁.setTop (mkF m 13 #[.val (.int p1), .val (.int (p1 / (4 : Int32))), .val (.int (p1 % (4 : Int32)))] [(.int (p1 / (4 : Int32)))])) _
    refine XS.iconst X0.here hx rfl (hb hby d1_13) ?_
    show Steps p.tables e below (s₁.setTop (mkF m 14 #[.val (.int p1), .val (.int (p1 / (4 : Int32))), .val (.int (p1 % (4 : Int32)))] [(.int (3 : Int32)), (.int (p1 / (4 : Int32)))])) _
    refine XS.icmpNo X0.here hx rfl (hb hby d1_14) rfl (feq hc14).1 ?_
    show Steps p.tables e below (s₁.setTop (mkF m 17 #[.val (.int p1), .val (.int (p1 / (4 : Int32))), .val (.int (p1 % (4 : Int32)))] [])) _
    refine XS.iloadN X0.here hx rfl (hb hby d1_17) rfl ?_
    show Steps p.tables e below (s₁.setTop (mkF m 18 #[.val (.int p1), .val (.int (p1 / (4 : Int32))), .val (.int (p1 % (4 : Int32)))] [(.int (p1 % (4 : Int32)))])) _
    refine XS.ifNo X0.here hx rfl (hb hby d1_18) rfl ((if0 _ _).trans (feq hc18).1) ?_
    show Steps p.tables e below (s₁.setTop (mkF m 21 #[.val (.int p1), .val (.int (p1 / (4 : Int32))), .val (.int (p1 % (4 : Int32)))] [])) _
    refine XS.iloadN X0.here hx rfl (hb hby d1_21) rfl ?_
    show Steps p.tables e below (s₁.setTop (mkF m 22 #[.val (.int p1), .val (.int (p1 / (4 : Int32))), .val (.int (p1 % (4 : Int32)))] [(.int (p1 % (4 : Int32)))])) _
    refine XS.iconst X0.here hx rfl (hb hby d1_22) ?_
    show Steps p.tables e below (s₁.setTop (mkF m 23 #[.val (.int p1), .val (.int (p1 / (4 : Int32))), .val (.int (p1 % (4 : Int32)))] [(.int (3 : Int32)), (.int (p1 % (4 : Int32)))])) _
    refine XS.icmpNo X0.here hx rfl (hb hby d1_23) rfl (teq hc23).2 ?_
    show Steps p.tables e below (s₁.setTop (mkF m 26 #[.val (.int p1), .val (.int (p1 / (4 : Int32))), .val (.int (p1 % (4 : Int32)))] [])) _
    refine XS.iconst X0.here hx rfl (hb hby d1_26) ?_
    show Steps p.tables e below (s₁.setTop (mkF m 27 #[.val (.int p1), .val (.int (p1 / (4 : Int32))), .val (.int (p1 % (4 : Int32)))] [(.int (1 : Int32))])) _
    refine XS.goto X0.here hx rfl (pc0 := 27) (pc' := 31) rfl (hb hby d1_27) (by decide) (by decide) ?_
    show Steps p.tables e below (s₁.setTop (mkF m 31 #[.val (.int p1), .val (.int (p1 / (4 : Int32))), .val (.int (p1 % (4 : Int32)))] [(.int (1 : Int32))])) _
    exact retN X0 hx (t := .boolean) Bd.returns (by simp) (hb hby d1_31) hr
  · show Q1d Z p1 h0 n0 _ s₁.heap _
    rw [e0]
    exact ⟨rfl, N0, rfl⟩
theorem d1_30 : decode prog_19_method_7_code 30 = .ok (.iconst 0, 1) := by decide +kernel
def Q1e (Z : State) (p1 : Int32) (h0 : Heap) (n0 : Nat) (v : Option Value) (h : Heap) (L : List Loc) : Prop := v = some (.int (0 : Int32)) ∧ Fr n0 L ∧ h = h0
set_option maxRecDepth 65536 in
set_option maxHeartbeats 40000000 in
theorem rm1e (l : Launch) (Z : State) (a0 : Array Value) (hw : ∀ d ∈ tables_1, d.before a0 Z = true) (ws : List Jvm.Cond) (p1 : Int32) (h0 : Heap) (n0 : Nat) (Z0 : n0 ≤ h0.size) (hnz2 : ¬ ((4 : Int32) = (0 : Int32))) (hnz6 : ¬ ((4 : Int32) = (0 : Int32))) (hc9 : ¬ ((p1 / (4 : Int32)) = (0 : Int32))) (hc14 : ¬ ((p1 / (4 : Int32)) = (3 : Int32))) (hc18 : ¬ ((p1 % (4 : Int32)) = (0 : Int32))) (hc23 : ¬ ((p1 % (4 : Int32)) = (3 : Int32))) :
    MetFree l (⟨"com/example/cardwright/cardwright/games/okiya/Garden", "onBorder", "(I)Z"⟩ : MethodName) (head1 (Jvm.Cond.code (⟨"com/example/cardwright/cardwright/games/okiya/Garden", "onBorder", "(I)Z"⟩ : MethodName) prog_19_method_7_code 3 (some .boolean) :: ws) ({ frames := 0, cells := 0, slots := 0, locals := 0 } : Room)) (fun a U => a = #[(.int p1)] ∧ Z.Warmed39 U.vm ∧ U.heap = h0) (fun _ _ _ _ _ => True) (fun _ U o U' => ∃ v L, o = .returned v ∧ Q1e Z p1 h0 n0 v U'.heap L ∧ FrameEnd U o U' L ({ frames := 0, cells := 0, slots := 0, locals := 0 } : Room).cells ({ frames := 0, cells := 0, slots := 0, locals := 0 } : Room).slots) := by
  refine MetFree.of_bodySF (plainFor_of_name pn_1) hisR ?_
  intro p e s m args below meth c s₁ Bd hml0 hP hK
  obtain ⟨rfl, hZ, hh⟩ := hP
  have hx := Bd.exec
  have hby := Bd.bytes
  have hml : c.maxLocals = 3 := hml0
  have hown : s.vm.findClass "com/example/cardwright/cardwright/games/okiya/Garden" = some m.cls := findClass_of_methodNamed Bd.named
  have hnm := (name_of_methodNamed Bd.named Bd.method).1
  have X0 : Stand p l e ({ frames := 0, cells := 0, slots := 0, locals := 0 } : Room) s m #[(.int p1)] below meth c s₁ [] 0 0 := Stand.of_body Bd
  have e0 : s₁.heap = h0 := by rw [← hh, Bd.state]; rfl
  have N0 := Fr.nil n0
  have pre0 : ∀ t, Steps p.tables e below (s₁.setTop (mkF m 0 #[.val (.int p1), .unset, .unset] [])) t → Steps p.tables e below (s₁.setTop (entryFrame m #[(.int p1)] 3)) t := fun t k => castTop (ef_1 m p1) k

  obtain ⟨fs, hr, hrun, hended, hW, hsame⟩ := X0.leave (v := some (.int (0 : Int32))) (fun h => by rw [Bd.returns] at h; cases h)
  refine ⟨_, _, pre0 _ ?_, hrun, hended, _, _, rfl, ?_, ⟨_, rfl⟩, hW, hsame.mono (by decide) (by decide)⟩
  · show Steps p.tables e below (s₁.setTop (mkF m 0 #[.val (.int p1), .unset, .unset] [])) _
    refine XS.iloadN X0.here hx rfl (hb hby d1_0) rfl ?_
    show Steps p.tables e below (s₁.setTop (mkF m 1 #[.val (.int p1), .unset, .unset] [(.int p1)])) _
    refine XS.iconst X0.here hx rfl (hb hby d1_1) ?_
    show Steps p.tables e below (s₁.setTop (mkF m 2 #[.val (.int p1), .unset, .unset] [(.int (4 : Int32)), (.int p1)])) _
    refine XS.idiv X0.here hx rfl (hb hby d1_2) rfl hnz2 ?_
    show Steps p.tables e below (s₁.setTop (mkF m 3 #[.val (.int p1), .unset, .unset] [(.int (p1 / (4 : Int32)))])) _
    refine XS.istoreN X0.here hx rfl (hb hby d1_3) rfl (l' := #[.val (.int p1), .val (.int (p1 / (4 : Int32))), .unset]) rfl ?_
    show Steps p.tables e below (s₁.setTop (mkF m 4 #[.val (.int p1), .val (.int (p1 / (4 : Int32))), .unset] [])) _
    refine XS.iloadN X0.here hx rfl (hb hby d1_4) rfl ?_
    show Steps p.tables e below (s₁.setTop (mkF m 5 #[.val (.int p1), .val (.int (p1 / (4 : Int32))), .unset] [(.int p1)])) _
    refine XS.iconst X0.here hx rfl (hb hby d1_5) ?_
    show Steps p.tables e below (s₁.setTop (mkF m 6 #[.val (.int p1), .val (.int (p1 / (4 : Int32))), .unset] [(.int (4 : Int32)), (.int p1)])) _
    refine own_irem X0.here hx rfl (hb hby d1_6) rfl hnz6 ?_
    show Steps p.tables e below (s₁.setTop (mkF m 7 #[.val (.int p1), .val (.int (p1 / (4 : Int32))), .unset] [(.int (p1 % (4 : Int32)))])) _
    refine XS.istoreN X0.here hx rfl (hb hby d1_7) rfl (l' := #[.val (.int p1), .val (.int (p1 / (4 : Int32))), .val (.int (p1 % (4 : Int32)))]) rfl ?_
    show Steps p.tables e below (s₁.setTop (mkF m 8 #[.val (.int p1), .val (.int (p1 / (4 : Int32))), .val (.int (p1 % (4 : Int32)))] [])) _
    refine XS.iloadN X0.here hx rfl (hb hby d1_8) rfl ?_
    show Steps p.tables e below (s₁.setTop (mkF m 9 #[.val (.int p1), .val (.int (p1 / (4 : Int32))), .val (.int (p1 % (4 : Int32)))] [(.int (p1 / (4 : Int32)))])) _
    refine XS.ifNo X0.here hx rfl (hb hby d1_9) rfl ((if0 _ _).trans (feq hc9).1) ?_
    show Steps p.tables e below (s₁.setTop (mkF m 12 #[.val (.int p1), .val (.int (p1 / (4 : Int32))), .val (.int (p1 % (4 : Int32)))] [])) _
    refine XS.iloadN X0.here hx rfl (hb hby d1_12) rfl ?_
    show Steps p.tables e below (s₁.setTop (mkF m 13 #[.val (.int p1), .val (.int (p1 / (4 : Int32))), .val (.int (p1 % (4 : Int32)))] [(.int (p1 / (4 : Int32)))])) _
    refine XS.iconst X0.here hx rfl (hb hby d1_13) ?_
    show Steps p.tables e below (s₁.setTop (mkF m 14 #[.val (.int p1), .val (.int (p1 / (4 : Int32))), .val (.int (p1 % (4 : Int32)))] [(.int (3 : Int32)), (.int (p1 / (4 : Int32)))])) _
    refine XS.icmpNo X0.here hx rfl (hb hby d1_14) rfl (feq hc14).1 ?_
    show Steps p.tables e below (s₁.setTop (mkF m 17 #[.val (.int p1), .val (.int (p1 / (4 : Int32))), .val (.int (p1 % (4 : Int32)))] [])) _
    refine XS.iloadN X0.here hx rfl (hb hby d1_17) rfl ?_
    show Steps p.tables e below (s₁.setTop (mkF m 18 #[.val (.int p1), .val (.int (p1 / (4 : Int32))), .val (.int (p1 % (4 : Int32)))] [(.int (p1 % (4 : Int32)))])) _
    refine XS.ifNo X0.here hx rfl (hb hby d1_18) rfl ((if0 _ _).trans (feq hc18).1) ?_
    show Steps p.tables e below (s₁.setTop (mkF m 21 #[.val (.int p1), .val (.int (p1 / (4 : Int32))), .val (.int (p1 % (4 : Int32)))] [])) _
    refine XS.iloadN X0.here hx rfl (hb hby d1_21) rfl ?_
    show Steps p.tables e below (s₁.setTop (mkF m 22 #[.val (.int p1), .val (.int (p1 / (4 : Int32))), .val (.int (p1 % (4 : Int32)))] [(.int (p1 % (4 : Int32)))])) _
    refine XS.iconst X0.here hx rfl (hb hby d1_22) ?_
    show Steps p.tables e below (s₁.setTop (mkF m 23 #[.val (.int p1), .val (.int (p1 / (4 : Int32))), .val (.int (p1 % (4 : Int32)))] [(.int (3 : Int32)), (.int (p1 % (4 : Int32)))])) _
    refine XS.icmpYes X0.here hx rfl (pc0 := 23) (pc' := 30) rfl (hb hby d1_23) rfl (feq hc23).2 (by decide) (by decide) ?_
    show Steps p.tables e below (s₁.setTop (mkF m 30 #[.val (.int p1), .val (.int (p1 / (4 : Int32))), .val (.int (p1 % (4 : Int32)))] [])) _
    refine XS.iconst X0.here hx rfl (hb hby d1_30) ?_
    show Steps p.tables e below (s₁.setTop (mkF m 31 #[.val (.int p1), .val (.int (p1 / (4 : Int32))), .val (.int (p1 % (4 : Int32)))] [(.int (0 : Int32))])) _
    exact retN X0 hx (t := .boolean) Bd.returns (by simp) (hb hby d1_31) hr
  · show Q1e Z p1 h0 n0 _ s₁.heap _
    rw [e0]
    exact ⟨rfl, N0, rfl⟩
def own_f1 (p1 : Int32) : Int32 := (if (p1 / (4 : Int32)) = (0 : Int32) then (1 : Int32) else (if (p1 / (4 : Int32)) = (3 : Int32) then (1 : Int32) else (if (p1 % (4 : Int32)) = (0 : Int32) then (1 : Int32) else (if (p1 % (4 : Int32)) = (3 : Int32) then (1 : Int32) else (0 : Int32)))))
theorem rm1 (l : Launch) (Z : State) (a0 : Array Value) (hw : ∀ d ∈ tables_1, d.before a0 Z = true) (ws : List Jvm.Cond) (p1 : Int32) (h0 : Heap) (n0 : Nat) (Z0 : n0 ≤ h0.size) :
    MetFree l (⟨"com/example/cardwright/cardwright/games/okiya/Garden", "onBorder", "(I)Z"⟩ : MethodName) (head1 (Jvm.Cond.code (⟨"com/example/cardwright/cardwright/games/okiya/Garden", "onBorder", "(I)Z"⟩ : MethodName) prog_19_method_7_code 3 (some .boolean) :: ws) ({ frames := 0, cells := 0, slots := 0, locals := 0 } : Room)) (fun a U => a = #[(.int p1)] ∧ Z.Warmed39 U.vm ∧ U.heap = h0) (fun _ _ _ _ _ => True) (fun _ U o U' => ∃ v L, o = .returned v ∧ own_Qr h0 n0 (.int (own_f1 p1)) v U'.heap L ∧ FrameEnd U o U' L ({ frames := 0, cells := 0, slots := 0, locals := 0 } : Room).cells ({ frames := 0, cells := 0, slots := 0, locals := 0 } : Room).slots) := by
  unfold own_f1
  by_cases hc9 : (p1 / (4 : Int32)) = (0 : Int32)
  · rw [if_pos hc9]
    exact rm1a l Z a0 hw ws p1 h0 n0 Z0 (by decide) (by decide) hc9
  · rw [if_neg hc9]
    by_cases hc14 : (p1 / (4 : Int32)) = (3 : Int32)
    · rw [if_pos hc14]
      exact rm1b l Z a0 hw ws p1 h0 n0 Z0 (by decide) (by decide) hc9 hc14
    · rw [if_neg hc14]
      by_cases hc18 : (p1 % (4 : Int32)) = (0 : Int32)
      · rw [if_pos hc18]
        exact rm1c l Z a0 hw ws p1 h0 n0 Z0 (by decide) (by decide) hc9 hc14 hc18
      · rw [if_neg hc18]
        by_cases hc23 : (p1 % (4 : Int32)) = (3 : Int32)
        · rw [if_pos hc23]
          exact rm1d l Z a0 hw ws p1 h0 n0 Z0 (by decide) (by decide) hc9 hc14 hc18 hc23
        · rw [if_neg hc23]
          exact rm1e l Z a0 hw ws p1 h0 n0 Z0 (by decide) (by decide) hc9 hc14 hc18 hc23
theorem own_rest (p1 : Int32) (h5 : ¬ ((p1 &&& (15 : Int32)) = (5 : Int32))) (h6 : ¬ ((p1 &&& (15 : Int32)) = (6 : Int32))) (h9 : ¬ ((p1 &&& (15 : Int32)) = (9 : Int32))) (h10 : ¬ ((p1 &&& (15 : Int32)) = (10 : Int32))) : own_f1 (p1 &&& (15 : Int32)) = (1 : Int32) := by
  rcases own_m16 p1 with h | h | h | h | h | h | h | h | h | h | h | h | h | h | h | h <;> first | exact absurd h h5 | exact absurd h h6 | exact absurd h h9 | exact absurd h h10 | (rw [h]; decide)
theorem pn_0 : plainName "com/example/cardwright/cardwright/games/okiya/GardenOnBorderPinLaw" = true := by first | (simp [plainName, overriddenIn]; done) | decide +kernel
theorem pd_0_0 : parseMethodDescriptor "(I)Z" = some ⟨[.int], some .boolean⟩ := by decide +kernel
theorem ef_0 (m : MethodId) (x0 : Int32) : entryFrame m #[(.int x0)] maxLocals = mkF m 0 #[.val (.int x0), .unset, .unset] [] := by first | (simp [entryFrame, mkF, argsToLocals, Value.category, maxLocals]; done) | rfl
def Q0a (Z : State) (p1 : Int32) (h0 : Heap) (n0 : Nat) (v : Option Value) (h : Heap) (L : List Loc) : Prop := v = some (.int (1 : Int32)) ∧ Fr n0 L
set_option maxRecDepth 65536 in
set_option maxHeartbeats 40000000 in
theorem rm0a (l : Launch) (Z : State) (a0 : Array Value) (hw : ∀ d ∈ tables_1, d.before a0 Z = true) (ws : List Jvm.Cond) (p1 : Int32) (h0 : Heap) (n0 : Nat) (Z0 : n0 ≤ h0.size) (hc7 : (p1 &&& (15 : Int32)) = (5 : Int32)) (hc39 : ¬ ((1 : Int32) = (0 : Int32))) :
    MetFree l x (head1 (Jvm.Cond.code x code maxLocals ret :: ws) room_1) (fun a U => a = #[(.int p1)] ∧ Z.Warmed39 U.vm ∧ U.heap = h0) (fun _ _ _ _ _ => True) (fun _ U o U' => ∃ v L, o = .returned v ∧ Q0a Z p1 h0 n0 v U'.heap L ∧ FrameEnd U o U' L room_1.cells room_1.slots) := by
  refine MetFree.of_bodySF (plainFor_of_name pn_0) hisR ?_
  intro p e s m args below meth c s₁ Bd hml0 hP hK
  obtain ⟨rfl, hZ, hh⟩ := hP
  have hx := Bd.exec
  have hby := Bd.bytes
  have hml : c.maxLocals = 3 := hml0
  have hown : s.vm.findClass "com/example/cardwright/cardwright/games/okiya/GardenOnBorderPinLaw" = some m.cls := findClass_of_methodNamed Bd.named
  have hnm := (name_of_methodNamed Bd.named Bd.method).1
  have X0 : Stand p l e room_1 s m #[(.int p1)] below meth c s₁ [] 0 0 := Stand.of_body Bd
  have e0 : s₁.heap = h0 := by rw [← hh, Bd.state]; rfl
  have N0 := Fr.nil n0
  have pre0 : ∀ t, Steps p.tables e below (s₁.setTop (mkF m 0 #[.val (.int p1), .unset, .unset] [])) t → Steps p.tables e below (s₁.setTop (entryFrame m #[(.int p1)] maxLocals)) t := fun t k => castTop (ef_0 m p1) k
  obtain ⟨_, _, ⟨T2, L2, k2, n2⟩, -, X2, ⟨Lc2, hQ2, l2, y2, z2⟩, st2⟩ := Jvm.LawKit.callS X0 hx (y := (⟨"com/example/cardwright/cardwright/games/okiya/Garden", "onBorder", "(I)Z"⟩ : MethodName)) hown (mvT hZ (hw _ (List.mem_of_getElem? (i := 0) rfl))) (mvT hZ (hw _ (List.mem_of_getElem? (i := 1) rfl))) (mvT hZ (hw _ (List.mem_of_getElem? (i := 2) rfl))) (mvT hZ (hw _ (List.mem_of_getElem? (i := 3) rfl))) (by decide) (backOf (W := 0) (rm1 l Z a0 hw [] (p1 &&& (15 : Int32)) h0 n0 Z0) hZ (hw _ (List.mem_of_getElem? (i := 3) rfl)) (hw _ (List.mem_of_getElem? (i := 2) rfl)) (by decide) (by decide)) (g := (mkF m 35 #[.val (.int p1), .val (.int (p1 &&& (15 : Int32))), .val (.int (1 : Int32))] [(.int (p1 &&& (15 : Int32)))])) rfl (by rw [hml]; rfl) (argsL := [(.int (p1 &&& (15 : Int32)))]) (rest := []) (lenOf pd_0_0 rfl) rfl (by show 2 * 0 + _ ≤ _; exact Nat.le_of_eq rfl) (hb hby at_35) (fun _ _ => ⟨rfl, e0, (by decide : 0 + 0 ≤ _), (by decide : 0 + 0 ≤ _)⟩)
  dsimp only [Pt.U, Pt.locs, Pt.cells, Pt.slots] at X2 l2 y2 z2 st2 hQ2
  subst l2 y2 z2
  obtain ⟨rfl, N2q, q2⟩ := hQ2
  have N2 := Fr.app N0 N2q
  obtain ⟨fs, hr, hrun, hended, hW, hsame⟩ := X2.leave (v := some (.int (1 : Int32))) (fun h => by rw [Bd.returns] at h; cases h)
  refine ⟨_, _, pre0 _ ?_, hrun, hended, _, _, rfl, ?_, ⟨_, rfl⟩, hW, hsame.mono (by decide) (by decide)⟩
  · show Steps p.tables e below (s₁.setTop (mkF m 0 #[.val (.int p1), .unset, .unset] [])) _
    refine XS.iloadN X0.here hx rfl (hb hby at_0) rfl ?_
    show Steps p.tables e below (s₁.setTop (mkF m 1 #[.val (.int p1), .unset, .unset] [(.int p1)])) _
    refine XS.bipush X0.here hx rfl (hb hby at_1) ?_
    show Steps p.tables e below (s₁.setTop (mkF m 3 #[.val (.int p1), .unset, .unset] [(.int (15 : Int32)), (.int p1)])) _
    refine XS.iand X0.here hx rfl (hb hby at_3) rfl ?_
    show Steps p.tables e below (s₁.setTop (mkF m 4 #[.val (.int p1), .unset, .unset] [(.int (p1 &&& (15 : Int32)))])) _
    refine XS.istoreN X0.here hx rfl (hb hby at_4) rfl (l' := #[.val (.int p1), .val (.int (p1 &&& (15 : Int32))), .unset]) rfl ?_
    show Steps p.tables e below (s₁.setTop (mkF m 5 #[.val (.int p1), .val (.int (p1 &&& (15 : Int32))), .unset] [])) _
    refine XS.iloadN X0.here hx rfl (hb hby at_5) rfl ?_
    show Steps p.tables e below (s₁.setTop (mkF m 6 #[.val (.int p1), .val (.int (p1 &&& (15 : Int32))), .unset] [(.int (p1 &&& (15 : Int32)))])) _
    refine XS.iconst X0.here hx rfl (hb hby at_6) ?_
    show Steps p.tables e below (s₁.setTop (mkF m 7 #[.val (.int p1), .val (.int (p1 &&& (15 : Int32))), .unset] [(.int (5 : Int32)), (.int (p1 &&& (15 : Int32)))])) _
    refine XS.icmpYes X0.here hx rfl (pc0 := 7) (pc' := 28) rfl (hb hby at_7) rfl (teq hc7).1 (by decide) (by decide) ?_
    show Steps p.tables e below (s₁.setTop (mkF m 28 #[.val (.int p1), .val (.int (p1 &&& (15 : Int32))), .unset] [])) _
    refine XS.iconst X0.here hx rfl (hb hby at_28) ?_
    show Steps p.tables e below (s₁.setTop (mkF m 29 #[.val (.int p1), .val (.int (p1 &&& (15 : Int32))), .unset] [(.int (1 : Int32))])) _
    refine XS.goto X0.here hx rfl (pc0 := 29) (pc' := 33) rfl (hb hby at_29) (by decide) (by decide) ?_
    show Steps p.tables e below (s₁.setTop (mkF m 33 #[.val (.int p1), .val (.int (p1 &&& (15 : Int32))), .unset] [(.int (1 : Int32))])) _
    refine XS.istoreN X0.here hx rfl (hb hby at_33) rfl (l' := #[.val (.int p1), .val (.int (p1 &&& (15 : Int32))), .val (.int (1 : Int32))]) rfl ?_
    show Steps p.tables e below (s₁.setTop (mkF m 34 #[.val (.int p1), .val (.int (p1 &&& (15 : Int32))), .val (.int (1 : Int32))] [])) _
    refine XS.iloadN X0.here hx rfl (hb hby at_34) rfl ?_
    show Steps p.tables e below (s₁.setTop (mkF m 35 #[.val (.int p1), .val (.int (p1 &&& (15 : Int32))), .val (.int (1 : Int32))] [(.int (p1 &&& (15 : Int32)))])) _
    refine st2 _ ?_
    show Steps p.tables e below (T2.setTop (mkF m 38 #[.val (.int p1), .val (.int (p1 &&& (15 : Int32))), .val (.int (1 : Int32))] [(.int (own_f1 (p1 &&& (15 : Int32))))])) _
    refine XS.iloadN X2.here hx rfl (hb hby at_38) rfl ?_
    show Steps p.tables e below (T2.setTop (mkF m 39 #[.val (.int p1), .val (.int (p1 &&& (15 : Int32))), .val (.int (1 : Int32))] [(.int (1 : Int32)), (.int (own_f1 (p1 &&& (15 : Int32))))])) _
    refine XS.ifYes X2.here hx rfl (pc0 := 39) (pc' := 46) rfl (hb hby at_39) rfl ((if0 _ _).trans (feq hc39).2) (by decide) (by decide) ?_
    show Steps p.tables e below (T2.setTop (mkF m 46 #[.val (.int p1), .val (.int (p1 &&& (15 : Int32))), .val (.int (1 : Int32))] [(.int (own_f1 (p1 &&& (15 : Int32))))])) _
    refine XS.iconst X2.here hx rfl (hb hby at_46) ?_
    show Steps p.tables e below (T2.setTop (mkF m 47 #[.val (.int p1), .val (.int (p1 &&& (15 : Int32))), .val (.int (1 : Int32))] [(.int (0 : Int32)), (.int (own_f1 (p1 &&& (15 : Int32))))])) _
    refine XS.icmpNo X2.here hx rfl (hb hby at_47) rfl (teq ((by rw [hc7]; decide) : (own_f1 (p1 &&& (15 : Int32))) = (0 : Int32))).2 ?_
    show Steps p.tables e below (T2.setTop (mkF m 50 #[.val (.int p1), .val (.int (p1 &&& (15 : Int32))), .val (.int (1 : Int32))] [])) _
    refine XS.iconst X2.here hx rfl (hb hby at_50) ?_
    show Steps p.tables e below (T2.setTop (mkF m 51 #[.val (.int p1), .val (.int (p1 &&& (15 : Int32))), .val (.int (1 : Int32))] [(.int (1 : Int32))])) _
    refine XS.goto X2.here hx rfl (pc0 := 51) (pc' := 55) rfl (hb hby at_51) (by decide) (by decide) ?_
    show Steps p.tables e below (T2.setTop (mkF m 55 #[.val (.int p1), .val (.int (p1 &&& (15 : Int32))), .val (.int (1 : Int32))] [(.int (1 : Int32))])) _
    exact retN X2 hx (t := .boolean) Bd.returns (by simp) (hb hby at_55) hr
  · show Q0a Z p1 h0 n0 _ T2.heap _
    exact ⟨rfl, N2⟩
def Q0b (Z : State) (p1 : Int32) (h0 : Heap) (n0 : Nat) (v : Option Value) (h : Heap) (L : List Loc) : Prop := v = some (.int (1 : Int32)) ∧ Fr n0 L
set_option maxRecDepth 65536 in
set_option maxHeartbeats 40000000 in
theorem rm0b (l : Launch) (Z : State) (a0 : Array Value) (hw : ∀ d ∈ tables_1, d.before a0 Z = true) (ws : List Jvm.Cond) (p1 : Int32) (h0 : Heap) (n0 : Nat) (Z0 : n0 ≤ h0.size) (hc7 : ¬ ((p1 &&& (15 : Int32)) = (5 : Int32))) (hc13 : (p1 &&& (15 : Int32)) = (6 : Int32)) (hc39 : ¬ ((1 : Int32) = (0 : Int32))) :
    MetFree l x (head1 (Jvm.Cond.code x code maxLocals ret :: ws) room_1) (fun a U => a = #[(.int p1)] ∧ Z.Warmed39 U.vm ∧ U.heap = h0) (fun _ _ _ _ _ => True) (fun _ U o U' => ∃ v L, o = .returned v ∧ Q0b Z p1 h0 n0 v U'.heap L ∧ FrameEnd U o U' L room_1.cells room_1.slots) := by
  refine MetFree.of_bodySF (plainFor_of_name pn_0) hisR ?_
  intro p e s m args below meth c s₁ Bd hml0 hP hK
  obtain ⟨rfl, hZ, hh⟩ := hP
  have hx := Bd.exec
  have hby := Bd.bytes
  have hml : c.maxLocals = 3 := hml0
  have hown : s.vm.findClass "com/example/cardwright/cardwright/games/okiya/GardenOnBorderPinLaw" = some m.cls := findClass_of_methodNamed Bd.named
  have hnm := (name_of_methodNamed Bd.named Bd.method).1
  have X0 : Stand p l e room_1 s m #[(.int p1)] below meth c s₁ [] 0 0 := Stand.of_body Bd
  have e0 : s₁.heap = h0 := by rw [← hh, Bd.state]; rfl
  have N0 := Fr.nil n0
  have pre0 : ∀ t, Steps p.tables e below (s₁.setTop (mkF m 0 #[.val (.int p1), .unset, .unset] [])) t → Steps p.tables e below (s₁.setTop (entryFrame m #[(.int p1)] maxLocals)) t := fun t k => castTop (ef_0 m p1) k
  obtain ⟨_, _, ⟨T2, L2, k2, n2⟩, -, X2, ⟨Lc2, hQ2, l2, y2, z2⟩, st2⟩ := Jvm.LawKit.callS X0 hx (y := (⟨"com/example/cardwright/cardwright/games/okiya/Garden", "onBorder", "(I)Z"⟩ : MethodName)) hown (mvT hZ (hw _ (List.mem_of_getElem? (i := 0) rfl))) (mvT hZ (hw _ (List.mem_of_getElem? (i := 1) rfl))) (mvT hZ (hw _ (List.mem_of_getElem? (i := 2) rfl))) (mvT hZ (hw _ (List.mem_of_getElem? (i := 3) rfl))) (by decide) (backOf (W := 0) (rm1 l Z a0 hw [] (p1 &&& (15 : Int32)) h0 n0 Z0) hZ (hw _ (List.mem_of_getElem? (i := 3) rfl)) (hw _ (List.mem_of_getElem? (i := 2) rfl)) (by decide) (by decide)) (g := (mkF m 35 #[.val (.int p1), .val (.int (p1 &&& (15 : Int32))), .val (.int (1 : Int32))] [(.int (p1 &&& (15 : Int32)))])) rfl (by rw [hml]; rfl) (argsL := [(.int (p1 &&& (15 : Int32)))]) (rest := []) (lenOf pd_0_0 rfl) rfl (by show 2 * 0 + _ ≤ _; exact Nat.le_of_eq rfl) (hb hby at_35) (fun _ _ => ⟨rfl, e0, (by decide : 0 + 0 ≤ _), (by decide : 0 + 0 ≤ _)⟩)
  dsimp only [Pt.U, Pt.locs, Pt.cells, Pt.slots] at X2 l2 y2 z2 st2 hQ2
  subst l2 y2 z2
  obtain ⟨rfl, N2q, q2⟩ := hQ2
  have N2 := Fr.app N0 N2q
  obtain ⟨fs, hr, hrun, hended, hW, hsame⟩ := X2.leave (v := some (.int (1 : Int32))) (fun h => by rw [Bd.returns] at h; cases h)
  refine ⟨_, _, pre0 _ ?_, hrun, hended, _, _, rfl, ?_, ⟨_, rfl⟩, hW, hsame.mono (by decide) (by decide)⟩
  · show Steps p.tables e below (s₁.setTop (mkF m 0 #[.val (.int p1), .unset, .unset] [])) _
    refine XS.iloadN X0.here hx rfl (hb hby at_0) rfl ?_
    show Steps p.tables e below (s₁.setTop (mkF m 1 #[.val (.int p1), .unset, .unset] [(.int p1)])) _
    refine XS.bipush X0.here hx rfl (hb hby at_1) ?_
    show Steps p.tables e below (s₁.setTop (mkF m 3 #[.val (.int p1), .unset, .unset] [(.int (15 : Int32)), (.int p1)])) _
    refine XS.iand X0.here hx rfl (hb hby at_3) rfl ?_
    show Steps p.tables e below (s₁.setTop (mkF m 4 #[.val (.int p1), .unset, .unset] [(.int (p1 &&& (15 : Int32)))])) _
    refine XS.istoreN X0.here hx rfl (hb hby at_4) rfl (l' := #[.val (.int p1), .val (.int (p1 &&& (15 : Int32))), .unset]) rfl ?_
    show Steps p.tables e below (s₁.setTop (mkF m 5 #[.val (.int p1), .val (.int (p1 &&& (15 : Int32))), .unset] [])) _
    refine XS.iloadN X0.here hx rfl (hb hby at_5) rfl ?_
    show Steps p.tables e below (s₁.setTop (mkF m 6 #[.val (.int p1), .val (.int (p1 &&& (15 : Int32))), .unset] [(.int (p1 &&& (15 : Int32)))])) _
    refine XS.iconst X0.here hx rfl (hb hby at_6) ?_
    show Steps p.tables e below (s₁.setTop (mkF m 7 #[.val (.int p1), .val (.int (p1 &&& (15 : Int32))), .unset] [(.int (5 : Int32)), (.int (p1 &&& (15 : Int32)))])) _
    refine XS.icmpNo X0.here hx rfl (hb hby at_7) rfl (feq hc7).1 ?_
    show Steps p.tables e below (s₁.setTop (mkF m 10 #[.val (.int p1), .val (.int (p1 &&& (15 : Int32))), .unset] [])) _
    refine XS.iloadN X0.here hx rfl (hb hby at_10) rfl ?_
    show Steps p.tables e below (s₁.setTop (mkF m 11 #[.val (.int p1), .val (.int (p1 &&& (15 : Int32))), .unset] [(.int (p1 &&& (15 : Int32)))])) _
    refine XS.bipush X0.here hx rfl (hb hby at_11) ?_
    show Steps p.tables e below (s₁.setTop (mkF m 13 #[.val (.int p1), .val (.int (p1 &&& (15 : Int32))), .unset] [(.int (6 : Int32)), (.int (p1 &&& (15 : Int32)))])) _
    refine XS.icmpYes X0.here hx rfl (pc0 := 13) (pc' := 28) rfl (hb hby at_13) rfl (teq hc13).1 (by decide) (by decide) ?_
    show Steps p.tables e below (s₁.setTop (mkF m 28 #[.val (.int p1), .val (.int (p1 &&& (15 : Int32))), .unset] [])) _
    refine XS.iconst X0.here hx rfl (hb hby at_28) ?_
    show Steps p.tables e below (s₁.setTop (mkF m 29 #[.val (.int p1), .val (.int (p1 &&& (15 : Int32))), .unset] [(.int (1 : Int32))])) _
    refine XS.goto X0.here hx rfl (pc0 := 29) (pc' := 33) rfl (hb hby at_29) (by decide) (by decide) ?_
    show Steps p.tables e below (s₁.setTop (mkF m 33 #[.val (.int p1), .val (.int (p1 &&& (15 : Int32))), .unset] [(.int (1 : Int32))])) _
    refine XS.istoreN X0.here hx rfl (hb hby at_33) rfl (l' := #[.val (.int p1), .val (.int (p1 &&& (15 : Int32))), .val (.int (1 : Int32))]) rfl ?_
    show Steps p.tables e below (s₁.setTop (mkF m 34 #[.val (.int p1), .val (.int (p1 &&& (15 : Int32))), .val (.int (1 : Int32))] [])) _
    refine XS.iloadN X0.here hx rfl (hb hby at_34) rfl ?_
    show Steps p.tables e below (s₁.setTop (mkF m 35 #[.val (.int p1), .val (.int (p1 &&& (15 : Int32))), .val (.int (1 : Int32))] [(.int (p1 &&& (15 : Int32)))])) _
    refine st2 _ ?_
    show Steps p.tables e below (T2.setTop (mkF m 38 #[.val (.int p1), .val (.int (p1 &&& (15 : Int32))), .val (.int (1 : Int32))] [(.int (own_f1 (p1 &&& (15 : Int32))))])) _
    refine XS.iloadN X2.here hx rfl (hb hby at_38) rfl ?_
    show Steps p.tables e below (T2.setTop (mkF m 39 #[.val (.int p1), .val (.int (p1 &&& (15 : Int32))), .val (.int (1 : Int32))] [(.int (1 : Int32)), (.int (own_f1 (p1 &&& (15 : Int32))))])) _
    refine XS.ifYes X2.here hx rfl (pc0 := 39) (pc' := 46) rfl (hb hby at_39) rfl ((if0 _ _).trans (feq hc39).2) (by decide) (by decide) ?_
    show Steps p.tables e below (T2.setTop (mkF m 46 #[.val (.int p1), .val (.int (p1 &&& (15 : Int32))), .val (.int (1 : Int32))] [(.int (own_f1 (p1 &&& (15 : Int32))))])) _
    refine XS.iconst X2.here hx rfl (hb hby at_46) ?_
    show Steps p.tables e below (T2.setTop (mkF m 47 #[.val (.int p1), .val (.int (p1 &&& (15 : Int32))), .val (.int (1 : Int32))] [(.int (0 : Int32)), (.int (own_f1 (p1 &&& (15 : Int32))))])) _
    refine XS.icmpNo X2.here hx rfl (hb hby at_47) rfl (teq ((by rw [hc13]; decide) : (own_f1 (p1 &&& (15 : Int32))) = (0 : Int32))).2 ?_
    show Steps p.tables e below (T2.setTop (mkF m 50 #[.val (.int p1), .val (.int (p1 &&& (15 : Int32))), .val (.int (1 : Int32))] [])) _
    refine XS.iconst X2.here hx rfl (hb hby at_50) ?_
    show Steps p.tables e below (T2.setTop (mkF m 51 #[.val (.int p1), .val (.int (p1 &&& (15 : Int32))), .val (.int (1 : Int32))] [(.int (1 : Int32))])) _
    refine XS.goto X2.here hx rfl (pc0 := 51) (pc' := 55) rfl (hb hby at_51) (by decide) (by decide) ?_
    show Steps p.tables e below (T2.setTop (mkF m 55 #[.val (.int p1), .val (.int (p1 &&& (15 : Int32))), .val (.int (1 : Int32))] [(.int (1 : Int32))])) _
    exact retN X2 hx (t := .boolean) Bd.returns (by simp) (hb hby at_55) hr
  · show Q0b Z p1 h0 n0 _ T2.heap _
    exact ⟨rfl, N2⟩
def Q0c (Z : State) (p1 : Int32) (h0 : Heap) (n0 : Nat) (v : Option Value) (h : Heap) (L : List Loc) : Prop := v = some (.int (1 : Int32)) ∧ Fr n0 L
set_option maxRecDepth 65536 in
set_option maxHeartbeats 40000000 in
theorem rm0c (l : Launch) (Z : State) (a0 : Array Value) (hw : ∀ d ∈ tables_1, d.before a0 Z = true) (ws : List Jvm.Cond) (p1 : Int32) (h0 : Heap) (n0 : Nat) (Z0 : n0 ≤ h0.size) (hc7 : ¬ ((p1 &&& (15 : Int32)) = (5 : Int32))) (hc13 : ¬ ((p1 &&& (15 : Int32)) = (6 : Int32))) (hc19 : (p1 &&& (15 : Int32)) = (9 : Int32)) (hc39 : ¬ ((1 : Int32) = (0 : Int32))) :
    MetFree l x (head1 (Jvm.Cond.code x code maxLocals ret :: ws) room_1) (fun a U => a = #[(.int p1)] ∧ Z.Warmed39 U.vm ∧ U.heap = h0) (fun _ _ _ _ _ => True) (fun _ U o U' => ∃ v L, o = .returned v ∧ Q0c Z p1 h0 n0 v U'.heap L ∧ FrameEnd U o U' L room_1.cells room_1.slots) := by
  refine MetFree.of_bodySF (plainFor_of_name pn_0) hisR ?_
  intro p e s m args below meth c s₁ Bd hml0 hP hK
  obtain ⟨rfl, hZ, hh⟩ := hP
  have hx := Bd.exec
  have hby := Bd.bytes
  have hml : c.maxLocals = 3 := hml0
  have hown : s.vm.findClass "com/example/cardwright/cardwright/games/okiya/GardenOnBorderPinLaw" = some m.cls := findClass_of_methodNamed Bd.named
  have hnm := (name_of_methodNamed Bd.named Bd.method).1
  have X0 : Stand p l e room_1 s m #[(.int p1)] below meth c s₁ [] 0 0 := Stand.of_body Bd
  have e0 : s₁.heap = h0 := by rw [← hh, Bd.state]; rfl
  have N0 := Fr.nil n0
  have pre0 : ∀ t, Steps p.tables e below (s₁.setTop (mkF m 0 #[.val (.int p1), .unset, .unset] [])) t → Steps p.tables e below (s₁.setTop (entryFrame m #[(.int p1)] maxLocals)) t := fun t k => castTop (ef_0 m p1) k
  obtain ⟨_, _, ⟨T2, L2, k2, n2⟩, -, X2, ⟨Lc2, hQ2, l2, y2, z2⟩, st2⟩ := Jvm.LawKit.callS X0 hx (y := (⟨"com/example/cardwright/cardwright/games/okiya/Garden", "onBorder", "(I)Z"⟩ : MethodName)) hown (mvT hZ (hw _ (List.mem_of_getElem? (i := 0) rfl))) (mvT hZ (hw _ (List.mem_of_getElem? (i := 1) rfl))) (mvT hZ (hw _ (List.mem_of_getElem? (i := 2) rfl))) (mvT hZ (hw _ (List.mem_of_getElem? (i := 3) rfl))) (by decide) (backOf (W := 0) (rm1 l Z a0 hw [] (p1 &&& (15 : Int32)) h0 n0 Z0) hZ (hw _ (List.mem_of_getElem? (i := 3) rfl)) (hw _ (List.mem_of_getElem? (i := 2) rfl)) (by decide) (by decide)) (g := (mkF m 35 #[.val (.int p1), .val (.int (p1 &&& (15 : Int32))), .val (.int (1 : Int32))] [(.int (p1 &&& (15 : Int32)))])) rfl (by rw [hml]; rfl) (argsL := [(.int (p1 &&& (15 : Int32)))]) (rest := []) (lenOf pd_0_0 rfl) rfl (by show 2 * 0 + _ ≤ _; exact Nat.le_of_eq rfl) (hb hby at_35) (fun _ _ => ⟨rfl, e0, (by decide : 0 + 0 ≤ _), (by decide : 0 + 0 ≤ _)⟩)
  dsimp only [Pt.U, Pt.locs, Pt.cells, Pt.slots] at X2 l2 y2 z2 st2 hQ2
  subst l2 y2 z2
  obtain ⟨rfl, N2q, q2⟩ := hQ2
  have N2 := Fr.app N0 N2q
  obtain ⟨fs, hr, hrun, hended, hW, hsame⟩ := X2.leave (v := some (.int (1 : Int32))) (fun h => by rw [Bd.returns] at h; cases h)
  refine ⟨_, _, pre0 _ ?_, hrun, hended, _, _, rfl, ?_, ⟨_, rfl⟩, hW, hsame.mono (by decide) (by decide)⟩
  · show Steps p.tables e below (s₁.setTop (mkF m 0 #[.val (.int p1), .unset, .unset] [])) _
    refine XS.iloadN X0.here hx rfl (hb hby at_0) rfl ?_
    show Steps p.tables e below (s₁.setTop (mkF m 1 #[.val (.int p1), .unset, .unset] [(.int p1)])) _
    refine XS.bipush X0.here hx rfl (hb hby at_1) ?_
    show Steps p.tables e below (s₁.setTop (mkF m 3 #[.val (.int p1), .unset, .unset] [(.int (15 : Int32)), (.int p1)])) _
    refine XS.iand X0.here hx rfl (hb hby at_3) rfl ?_
    show Steps p.tables e below (s₁.setTop (mkF m 4 #[.val (.int p1), .unset, .unset] [(.int (p1 &&& (15 : Int32)))])) _
    refine XS.istoreN X0.here hx rfl (hb hby at_4) rfl (l' := #[.val (.int p1), .val (.int (p1 &&& (15 : Int32))), .unset]) rfl ?_
    show Steps p.tables e below (s₁.setTop (mkF m 5 #[.val (.int p1), .val (.int (p1 &&& (15 : Int32))), .unset] [])) _
    refine XS.iloadN X0.here hx rfl (hb hby at_5) rfl ?_
    show Steps p.tables e below (s₁.setTop (mkF m 6 #[.val (.int p1), .val (.int (p1 &&& (15 : Int32))), .unset] [(.int (p1 &&& (15 : Int32)))])) _
    refine XS.iconst X0.here hx rfl (hb hby at_6) ?_
    show Steps p.tables e below (s₁.setTop (mkF m 7 #[.val (.int p1), .val (.int (p1 &&& (15 : Int32))), .unset] [(.int (5 : Int32)), (.int (p1 &&& (15 : Int32)))])) _
    refine XS.icmpNo X0.here hx rfl (hb hby at_7) rfl (feq hc7).1 ?_
    show Steps p.tables e below (s₁.setTop (mkF m 10 #[.val (.int p1), .val (.int (p1 &&& (15 : Int32))), .unset] [])) _
    refine XS.iloadN X0.here hx rfl (hb hby at_10) rfl ?_
    show Steps p.tables e below (s₁.setTop (mkF m 11 #[.val (.int p1), .val (.int (p1 &&& (15 : Int32))), .unset] [(.int (p1 &&& (15 : Int32)))])) _
    refine XS.bipush X0.here hx rfl (hb hby at_11) ?_
    show Steps p.tables e below (s₁.setTop (mkF m 13 #[.val (.int p1), .val (.int (p1 &&& (15 : Int32))), .unset] [(.int (6 : Int32)), (.int (p1 &&& (15 : Int32)))])) _
    refine XS.icmpNo X0.here hx rfl (hb hby at_13) rfl (feq hc13).1 ?_
    show Steps p.tables e below (s₁.setTop (mkF m 16 #[.val (.int p1), .val (.int (p1 &&& (15 : Int32))), .unset] [])) _
    refine XS.iloadN X0.here hx rfl (hb hby at_16) rfl ?_
    show Steps p.tables e below (s₁.setTop (mkF m 17 #[.val (.int p1), .val (.int (p1 &&& (15 : Int32))), .unset] [(.int (p1 &&& (15 : Int32)))])) _
    refine XS.bipush X0.here hx rfl (hb hby at_17) ?_
    show Steps p.tables e below (s₁.setTop (mkF m 19 #[.val (.int p1), .val (.int (p1 &&& (15 : Int32))), .unset] [(.int (9 : Int32)), (.int (p1 &&& (15 : Int32)))])) _
    refine XS.icmpYes X0.here hx rfl (pc0 := 19) (pc' := 28) rfl (hb hby at_19) rfl (teq hc19).1 (by decide) (by decide) ?_
    show Steps p.tables e below (s₁.setTop (mkF m 28 #[.val (.int p1), .val (.int (p1 &&& (15 : Int32))), .unset] [])) _
    refine XS.iconst X0.here hx rfl (hb hby at_28) ?_
    show Steps p.tables e below (s₁.setTop (mkF m 29 #[.val (.int p1), .val (.int (p1 &&& (15 : Int32))), .unset] [(.int (1 : Int32))])) _
    refine XS.goto X0.here hx rfl (pc0 := 29) (pc' := 33) rfl (hb hby at_29) (by decide) (by decide) ?_
    show Steps p.tables e below (s₁.setTop (mkF m 33 #[.val (.int p1), .val (.int (p1 &&& (15 : Int32))), .unset] [(.int (1 : Int32))])) _
    refine XS.istoreN X0.here hx rfl (hb hby at_33) rfl (l' := #[.val (.int p1), .val (.int (p1 &&& (15 : Int32))), .val (.int (1 : Int32))]) rfl ?_
    show Steps p.tables e below (s₁.setTop (mkF m 34 #[.val (.int p1), .val (.int (p1 &&& (15 : Int32))), .val (.int (1 : Int32))] [])) _
    refine XS.iloadN X0.here hx rfl (hb hby at_34) rfl ?_
    show Steps p.tables e below (s₁.setTop (mkF m 35 #[.val (.int p1), .val (.int (p1 &&& (15 : Int32))), .val (.int (1 : Int32))] [(.int (p1 &&& (15 : Int32)))])) _
    refine st2 _ ?_
    show Steps p.tables e below (T2.setTop (mkF m 38 #[.val (.int p1), .val (.int (p1 &&& (15 : Int32))), .val (.int (1 : Int32))] [(.int (own_f1 (p1 &&& (15 : Int32))))])) _
    refine XS.iloadN X2.here hx rfl (hb hby at_38) rfl ?_
    show Steps p.tables e below (T2.setTop (mkF m 39 #[.val (.int p1), .val (.int (p1 &&& (15 : Int32))), .val (.int (1 : Int32))] [(.int (1 : Int32)), (.int (own_f1 (p1 &&& (15 : Int32))))])) _
    refine XS.ifYes X2.here hx rfl (pc0 := 39) (pc' := 46) rfl (hb hby at_39) rfl ((if0 _ _).trans (feq hc39).2) (by decide) (by decide) ?_
    show Steps p.tables e below (T2.setTop (mkF m 46 #[.val (.int p1), .val (.int (p1 &&& (15 : Int32))), .val (.int (1 : Int32))] [(.int (own_f1 (p1 &&& (15 : Int32))))])) _
    refine XS.iconst X2.here hx rfl (hb hby at_46) ?_
    show Steps p.tables e below (T2.setTop (mkF m 47 #[.val (.int p1), .val (.int (p1 &&& (15 : Int32))), .val (.int (1 : Int32))] [(.int (0 : Int32)), (.int (own_f1 (p1 &&& (15 : Int32))))])) _
    refine XS.icmpNo X2.here hx rfl (hb hby at_47) rfl (teq ((by rw [hc19]; decide) : (own_f1 (p1 &&& (15 : Int32))) = (0 : Int32))).2 ?_
    show Steps p.tables e below (T2.setTop (mkF m 50 #[.val (.int p1), .val (.int (p1 &&& (15 : Int32))), .val (.int (1 : Int32))] [])) _
    refine XS.iconst X2.here hx rfl (hb hby at_50) ?_
    show Steps p.tables e below (T2.setTop (mkF m 51 #[.val (.int p1), .val (.int (p1 &&& (15 : Int32))), .val (.int (1 : Int32))] [(.int (1 : Int32))])) _
    refine XS.goto X2.here hx rfl (pc0 := 51) (pc' := 55) rfl (hb hby at_51) (by decide) (by decide) ?_
    show Steps p.tables e below (T2.setTop (mkF m 55 #[.val (.int p1), .val (.int (p1 &&& (15 : Int32))), .val (.int (1 : Int32))] [(.int (1 : Int32))])) _
    exact retN X2 hx (t := .boolean) Bd.returns (by simp) (hb hby at_55) hr
  · show Q0c Z p1 h0 n0 _ T2.heap _
    exact ⟨rfl, N2⟩
def Q0d (Z : State) (p1 : Int32) (h0 : Heap) (n0 : Nat) (v : Option Value) (h : Heap) (L : List Loc) : Prop := v = some (.int (1 : Int32)) ∧ Fr n0 L
set_option maxRecDepth 65536 in
set_option maxHeartbeats 40000000 in
theorem rm0d (l : Launch) (Z : State) (a0 : Array Value) (hw : ∀ d ∈ tables_1, d.before a0 Z = true) (ws : List Jvm.Cond) (p1 : Int32) (h0 : Heap) (n0 : Nat) (Z0 : n0 ≤ h0.size) (hc7 : ¬ ((p1 &&& (15 : Int32)) = (5 : Int32))) (hc13 : ¬ ((p1 &&& (15 : Int32)) = (6 : Int32))) (hc19 : ¬ ((p1 &&& (15 : Int32)) = (9 : Int32))) (hc25 : (p1 &&& (15 : Int32)) = (10 : Int32)) (hc39 : ¬ ((1 : Int32) = (0 : Int32))) :
    MetFree l x (head1 (Jvm.Cond.code x code maxLocals ret :: ws) room_1) (fun a U => a = #[(.int p1)] ∧ Z.Warmed39 U.vm ∧ U.heap = h0) (fun _ _ _ _ _ => True) (fun _ U o U' => ∃ v L, o = .returned v ∧ Q0d Z p1 h0 n0 v U'.heap L ∧ FrameEnd U o U' L room_1.cells room_1.slots) := by
  refine MetFree.of_bodySF (plainFor_of_name pn_0) hisR ?_
  intro p e s m args below meth c s₁ Bd hml0 hP hK
  obtain ⟨rfl, hZ, hh⟩ := hP
  have hx := Bd.exec
  have hby := Bd.bytes
  have hml : c.maxLocals = 3 := hml0
  have hown : s.vm.findClass "com/example/cardwright/cardwright/games/okiya/GardenOnBorderPinLaw" = some m.cls := findClass_of_methodNamed Bd.named
  have hnm := (name_of_methodNamed Bd.named Bd.method).1
  have X0 : Stand p l e room_1 s m #[(.int p1)] below meth c s₁ [] 0 0 := Stand.of_body Bd
  have e0 : s₁.heap = h0 := by rw [← hh, Bd.state]; rfl
  have N0 := Fr.nil n0
  have pre0 : ∀ t, Steps p.tables e below (s₁.setTop (mkF m 0 #[.val (.int p1), .unset, .unset] [])) t → Steps p.tables e below (s₁.setTop (entryFrame m #[(.int p1)] maxLocals)) t := fun t k => castTop (ef_0 m p1) k
  obtain ⟨_, _, ⟨T2, L2, k2, n2⟩, -, X2, ⟨Lc2, hQ2, l2, y2, z2⟩, st2⟩ := Jvm.LawKit.callS X0 hx (y := (⟨"com/example/cardwright/cardwright/games/okiya/Garden", "onBorder", "(I)Z"⟩ : MethodName)) hown (mvT hZ (hw _ (List.mem_of_getElem? (i := 0) rfl))) (mvT hZ (hw _ (List.mem_of_getElem? (i := 1) rfl))) (mvT hZ (hw _ (List.mem_of_getElem? (i := 2) rfl))) (mvT hZ (hw _ (List.mem_of_getElem? (i := 3) rfl))) (by decide) (backOf (W := 0) (rm1 l Z a0 hw [] (p1 &&& (15 : Int32)) h0 n0 Z0) hZ (hw _ (List.mem_of_getElem? (i := 3) rfl)) (hw _ (List.mem_of_getElem? (i := 2) rfl)) (by decide) (by decide)) (g := (mkF m 35 #[.val (.int p1), .val (.int (p1 &&& (15 : Int32))), .val (.int (1 : Int32))] [(.int (p1 &&& (15 : Int32)))])) rfl (by rw [hml]; rfl) (argsL := [(.int (p1 &&& (15 : Int32)))]) (rest := []) (lenOf pd_0_0 rfl) rfl (by show 2 * 0 + _ ≤ _; exact Nat.le_of_eq rfl) (hb hby at_35) (fun _ _ => ⟨rfl, e0, (by decide : 0 + 0 ≤ _), (by decide : 0 + 0 ≤ _)⟩)
  dsimp only [Pt.U, Pt.locs, Pt.cells, Pt.slots] at X2 l2 y2 z2 st2 hQ2
  subst l2 y2 z2
  obtain ⟨rfl, N2q, q2⟩ := hQ2
  have N2 := Fr.app N0 N2q
  obtain ⟨fs, hr, hrun, hended, hW, hsame⟩ := X2.leave (v := some (.int (1 : Int32))) (fun h => by rw [Bd.returns] at h; cases h)
  refine ⟨_, _, pre0 _ ?_, hrun, hended, _, _, rfl, ?_, ⟨_, rfl⟩, hW, hsame.mono (by decide) (by decide)⟩
  · show Steps p.tables e below (s₁.setTop (mkF m 0 #[.val (.int p1), .unset, .unset] [])) _
    refine XS.iloadN X0.here hx rfl (hb hby at_0) rfl ?_
    show Steps p.tables e below (s₁.setTop (mkF m 1 #[.val (.int p1), .unset, .unset] [(.int p1)])) _
    refine XS.bipush X0.here hx rfl (hb hby at_1) ?_
    show Steps p.tables e below (s₁.setTop (mkF m 3 #[.val (.int p1), .unset, .unset] [(.int (15 : Int32)), (.int p1)])) _
    refine XS.iand X0.here hx rfl (hb hby at_3) rfl ?_
    show Steps p.tables e below (s₁.setTop (mkF m 4 #[.val (.int p1), .unset, .unset] [(.int (p1 &&& (15 : Int32)))])) _
    refine XS.istoreN X0.here hx rfl (hb hby at_4) rfl (l' := #[.val (.int p1), .val (.int (p1 &&& (15 : Int32))), .unset]) rfl ?_
    show Steps p.tables e below (s₁.setTop (mkF m 5 #[.val (.int p1), .val (.int (p1 &&& (15 : Int32))), .unset] [])) _
    refine XS.iloadN X0.here hx rfl (hb hby at_5) rfl ?_
    show Steps p.tables e below (s₁.setTop (mkF m 6 #[.val (.int p1), .val (.int (p1 &&& (15 : Int32))), .unset] [(.int (p1 &&& (15 : Int32)))])) _
    refine XS.iconst X0.here hx rfl (hb hby at_6) ?_
    show Steps p.tables e below (s₁.setTop (mkF m 7 #[.val (.int p1), .val (.int (p1 &&& (15 : Int32))), .unset] [(.int (5 : Int32)), (.int (p1 &&& (15 : Int32)))])) _
    refine XS.icmpNo X0.here hx rfl (hb hby at_7) rfl (feq hc7).1 ?_
    show Steps p.tables e below (s₁.setTop (mkF m 10 #[.val (.int p1), .val (.int (p1 &&& (15 : Int32))), .unset] [])) _
    refine XS.iloadN X0.here hx rfl (hb hby at_10) rfl ?_
    show Steps p.tables e below (s₁.setTop (mkF m 11 #[.val (.int p1), .val (.int (p1 &&& (15 : Int32))), .unset] [(.int (p1 &&& (15 : Int32)))])) _
    refine XS.bipush X0.here hx rfl (hb hby at_11) ?_
    show Steps p.tables e below (s₁.setTop (mkF m 13 #[.val (.int p1), .val (.int (p1 &&& (15 : Int32))), .unset] [(.int (6 : Int32)), (.int (p1 &&& (15 : Int32)))])) _
    refine XS.icmpNo X0.here hx rfl (hb hby at_13) rfl (feq hc13).1 ?_
    show Steps p.tables e below (s₁.setTop (mkF m 16 #[.val (.int p1), .val (.int (p1 &&& (15 : Int32))), .unset] [])) _
    refine XS.iloadN X0.here hx rfl (hb hby at_16) rfl ?_
    show Steps p.tables e below (s₁.setTop (mkF m 17 #[.val (.int p1), .val (.int (p1 &&& (15 : Int32))), .unset] [(.int (p1 &&& (15 : Int32)))])) _
    refine XS.bipush X0.here hx rfl (hb hby at_17) ?_
    show Steps p.tables e below (s₁.setTop (mkF m 19 #[.val (.int p1), .val (.int (p1 &&& (15 : Int32))), .unset] [(.int (9 : Int32)), (.int (p1 &&& (15 : Int32)))])) _
    refine XS.icmpNo X0.here hx rfl (hb hby at_19) rfl (feq hc19).1 ?_
    show Steps p.tables e below (s₁.setTop (mkF m 22 #[.val (.int p1), .val (.int (p1 &&& (15 : Int32))), .unset] [])) _
    refine XS.iloadN X0.here hx rfl (hb hby at_22) rfl ?_
    show Steps p.tables e below (s₁.setTop (mkF m 23 #[.val (.int p1), .val (.int (p1 &&& (15 : Int32))), .unset] [(.int (p1 &&& (15 : Int32)))])) _
    refine XS.bipush X0.here hx rfl (hb hby at_23) ?_
    show Steps p.tables e below (s₁.setTop (mkF m 25 #[.val (.int p1), .val (.int (p1 &&& (15 : Int32))), .unset] [(.int (10 : Int32)), (.int (p1 &&& (15 : Int32)))])) _
    refine XS.icmpNo X0.here hx rfl (hb hby at_25) rfl (teq hc25).2 ?_
    show Steps p.tables e below (s₁.setTop (mkF m 28 #[.val (.int p1), .val (.int (p1 &&& (15 : Int32))), .unset] [])) _
    refine XS.iconst X0.here hx rfl (hb hby at_28) ?_
    show Steps p.tables e below (s₁.setTop (mkF m 29 #[.val (.int p1), .val (.int (p1 &&& (15 : Int32))), .unset] [(.int (1 : Int32))])) _
    refine XS.goto X0.here hx rfl (pc0 := 29) (pc' := 33) rfl (hb hby at_29) (by decide) (by decide) ?_
    show Steps p.tables e below (s₁.setTop (mkF m 33 #[.val (.int p1), .val (.int (p1 &&& (15 : Int32))), .unset] [(.int (1 : Int32))])) _
    refine XS.istoreN X0.here hx rfl (hb hby at_33) rfl (l' := #[.val (.int p1), .val (.int (p1 &&& (15 : Int32))), .val (.int (1 : Int32))]) rfl ?_
    show Steps p.tables e below (s₁.setTop (mkF m 34 #[.val (.int p1), .val (.int (p1 &&& (15 : Int32))), .val (.int (1 : Int32))] [])) _
    refine XS.iloadN X0.here hx rfl (hb hby at_34) rfl ?_
    show Steps p.tables e below (s₁.setTop (mkF m 35 #[.val (.int p1), .val (.int (p1 &&& (15 : Int32))), .val (.int (1 : Int32))] [(.int (p1 &&& (15 : Int32)))])) _
    refine st2 _ ?_
    show Steps p.tables e below (T2.setTop (mkF m 38 #[.val (.int p1), .val (.int (p1 &&& (15 : Int32))), .val (.int (1 : Int32))] [(.int (own_f1 (p1 &&& (15 : Int32))))])) _
    refine XS.iloadN X2.here hx rfl (hb hby at_38) rfl ?_
    show Steps p.tables e below (T2.setTop (mkF m 39 #[.val (.int p1), .val (.int (p1 &&& (15 : Int32))), .val (.int (1 : Int32))] [(.int (1 : Int32)), (.int (own_f1 (p1 &&& (15 : Int32))))])) _
    refine XS.ifYes X2.here hx rfl (pc0 := 39) (pc' := 46) rfl (hb hby at_39) rfl ((if0 _ _).trans (feq hc39).2) (by decide) (by decide) ?_
    show Steps p.tables e below (T2.setTop (mkF m 46 #[.val (.int p1), .val (.int (p1 &&& (15 : Int32))), .val (.int (1 : Int32))] [(.int (own_f1 (p1 &&& (15 : Int32))))])) _
    refine XS.iconst X2.here hx rfl (hb hby at_46) ?_
    show Steps p.tables e below (T2.setTop (mkF m 47 #[.val (.int p1), .val (.int (p1 &&& (15 : Int32))), .val (.int (1 : Int32))] [(.int (0 : Int32)), (.int (own_f1 (p1 &&& (15 : Int32))))])) _
    refine XS.icmpNo X2.here hx rfl (hb hby at_47) rfl (teq ((by rw [hc25]; decide) : (own_f1 (p1 &&& (15 : Int32))) = (0 : Int32))).2 ?_
    show Steps p.tables e below (T2.setTop (mkF m 50 #[.val (.int p1), .val (.int (p1 &&& (15 : Int32))), .val (.int (1 : Int32))] [])) _
    refine XS.iconst X2.here hx rfl (hb hby at_50) ?_
    show Steps p.tables e below (T2.setTop (mkF m 51 #[.val (.int p1), .val (.int (p1 &&& (15 : Int32))), .val (.int (1 : Int32))] [(.int (1 : Int32))])) _
    refine XS.goto X2.here hx rfl (pc0 := 51) (pc' := 55) rfl (hb hby at_51) (by decide) (by decide) ?_
    show Steps p.tables e below (T2.setTop (mkF m 55 #[.val (.int p1), .val (.int (p1 &&& (15 : Int32))), .val (.int (1 : Int32))] [(.int (1 : Int32))])) _
    exact retN X2 hx (t := .boolean) Bd.returns (by simp) (hb hby at_55) hr
  · show Q0d Z p1 h0 n0 _ T2.heap _
    exact ⟨rfl, N2⟩
def Q0e (Z : State) (p1 : Int32) (h0 : Heap) (n0 : Nat) (v : Option Value) (h : Heap) (L : List Loc) : Prop := v = some (.int (1 : Int32)) ∧ Fr n0 L
set_option maxRecDepth 65536 in
set_option maxHeartbeats 40000000 in
theorem rm0e (l : Launch) (Z : State) (a0 : Array Value) (hw : ∀ d ∈ tables_1, d.before a0 Z = true) (ws : List Jvm.Cond) (p1 : Int32) (h0 : Heap) (n0 : Nat) (Z0 : n0 ≤ h0.size) (hc7 : ¬ ((p1 &&& (15 : Int32)) = (5 : Int32))) (hc13 : ¬ ((p1 &&& (15 : Int32)) = (6 : Int32))) (hc19 : ¬ ((p1 &&& (15 : Int32)) = (9 : Int32))) (hc25 : ¬ ((p1 &&& (15 : Int32)) = (10 : Int32))) :
    MetFree l x (head1 (Jvm.Cond.code x code maxLocals ret :: ws) room_1) (fun a U => a = #[(.int p1)] ∧ Z.Warmed39 U.vm ∧ U.heap = h0) (fun _ _ _ _ _ => True) (fun _ U o U' => ∃ v L, o = .returned v ∧ Q0e Z p1 h0 n0 v U'.heap L ∧ FrameEnd U o U' L room_1.cells room_1.slots) := by
  refine MetFree.of_bodySF (plainFor_of_name pn_0) hisR ?_
  intro p e s m args below meth c s₁ Bd hml0 hP hK
  obtain ⟨rfl, hZ, hh⟩ := hP
  have hx := Bd.exec
  have hby := Bd.bytes
  have hml : c.maxLocals = 3 := hml0
  have hown : s.vm.findClass "com/example/cardwright/cardwright/games/okiya/GardenOnBorderPinLaw" = some m.cls := findClass_of_methodNamed Bd.named
  have hnm := (name_of_methodNamed Bd.named Bd.method).1
  have X0 : Stand p l e room_1 s m #[(.int p1)] below meth c s₁ [] 0 0 := Stand.of_body Bd
  have e0 : s₁.heap = h0 := by rw [← hh, Bd.state]; rfl
  have N0 := Fr.nil n0
  have pre0 : ∀ t, Steps p.tables e below (s₁.setTop (mkF m 0 #[.val (.int p1), .unset, .unset] [])) t → Steps p.tables e below (s₁.setTop (entryFrame m #[(.int p1)] maxLocals)) t := fun t k => castTop (ef_0 m p1) k
  obtain ⟨_, _, ⟨T2, L2, k2, n2⟩, -, X2, ⟨Lc2, hQ2, l2, y2, z2⟩, st2⟩ := Jvm.LawKit.callS X0 hx (y := (⟨"com/example/cardwright/cardwright/games/okiya/Garden", "onBorder", "(I)Z"⟩ : MethodName)) hown (mvT hZ (hw _ (List.mem_of_getElem? (i := 0) rfl))) (mvT hZ (hw _ (List.mem_of_getElem? (i := 1) rfl))) (mvT hZ (hw _ (List.mem_of_getElem? (i := 2) rfl))) (mvT hZ (hw _ (List.mem_of_getElem? (i := 3) rfl))) (by decide) (backOf (W := 0) (rm1 l Z a0 hw [] (p1 &&& (15 : Int32)) h0 n0 Z0) hZ (hw _ (List.mem_of_getElem? (i := 3) rfl)) (hw _ (List.mem_of_getElem? (i := 2) rfl)) (by decide) (by decide)) (g := (mkF m 35 #[.val (.int p1), .val (.int (p1 &&& (15 : Int32))), .val (.int (0 : Int32))] [(.int (p1 &&& (15 : Int32)))])) rfl (by rw [hml]; rfl) (argsL := [(.int (p1 &&& (15 : Int32)))]) (rest := []) (lenOf pd_0_0 rfl) rfl (by show 2 * 0 + _ ≤ _; exact Nat.le_of_eq rfl) (hb hby at_35) (fun _ _ => ⟨rfl, e0, (by decide : 0 + 0 ≤ _), (by decide : 0 + 0 ≤ _)⟩)
  dsimp only [Pt.U, Pt.locs, Pt.cells, Pt.slots] at X2 l2 y2 z2 st2 hQ2
  subst l2 y2 z2
  obtain ⟨rfl, N2q, q2⟩ := hQ2
  have N2 := Fr.app N0 N2q
  obtain ⟨fs, hr, hrun, hended, hW, hsame⟩ := X2.leave (v := some (.int (1 : Int32))) (fun h => by rw [Bd.returns] at h; cases h)
  refine ⟨_, _, pre0 _ ?_, hrun, hended, _, _, rfl, ?_, ⟨_, rfl⟩, hW, hsame.mono (by decide) (by decide)⟩
  · show Steps p.tables e below (s₁.setTop (mkF m 0 #[.val (.int p1), .unset, .unset] [])) _
    refine XS.iloadN X0.here hx rfl (hb hby at_0) rfl ?_
    show Steps p.tables e below (s₁.setTop (mkF m 1 #[.val (.int p1), .unset, .unset] [(.int p1)])) _
    refine XS.bipush X0.here hx rfl (hb hby at_1) ?_
    show Steps p.tables e below (s₁.setTop (mkF m 3 #[.val (.int p1), .unset, .unset] [(.int (15 : Int32)), (.int p1)])) _
    refine XS.iand X0.here hx rfl (hb hby at_3) rfl ?_
    show Steps p.tables e below (s₁.setTop (mkF m 4 #[.val (.int p1), .unset, .unset] [(.int (p1 &&& (15 : Int32)))])) _
    refine XS.istoreN X0.here hx rfl (hb hby at_4) rfl (l' := #[.val (.int p1), .val (.int (p1 &&& (15 : Int32))), .unset]) rfl ?_
    show Steps p.tables e below (s₁.setTop (mkF m 5 #[.val (.int p1), .val (.int (p1 &&& (15 : Int32))), .unset] [])) _
    refine XS.iloadN X0.here hx rfl (hb hby at_5) rfl ?_
    show Steps p.tables e below (s₁.setTop (mkF m 6 #[.val (.int p1), .val (.int (p1 &&& (15 : Int32))), .unset] [(.int (p1 &&& (15 : Int32)))])) _
    refine XS.iconst X0.here hx rfl (hb hby at_6) ?_
    show Steps p.tables e below (s₁.setTop (mkF m 7 #[.val (.int p1), .val (.int (p1 &&& (15 : Int32))), .unset] [(.int (5 : Int32)), (.int (p1 &&& (15 : Int32)))])) _
    refine XS.icmpNo X0.here hx rfl (hb hby at_7) rfl (feq hc7).1 ?_
    show Steps p.tables e below (s₁.setTop (mkF m 10 #[.val (.int p1), .val (.int (p1 &&& (15 : Int32))), .unset] [])) _
    refine XS.iloadN X0.here hx rfl (hb hby at_10) rfl ?_
    show Steps p.tables e below (s₁.setTop (mkF m 11 #[.val (.int p1), .val (.int (p1 &&& (15 : Int32))), .unset] [(.int (p1 &&& (15 : Int32)))])) _
    refine XS.bipush X0.here hx rfl (hb hby at_11) ?_
    show Steps p.tables e below (s₁.setTop (mkF m 13 #[.val (.int p1), .val (.int (p1 &&& (15 : Int32))), .unset] [(.int (6 : Int32)), (.int (p1 &&& (15 : Int32)))])) _
    refine XS.icmpNo X0.here hx rfl (hb hby at_13) rfl (feq hc13).1 ?_
    show Steps p.tables e below (s₁.setTop (mkF m 16 #[.val (.int p1), .val (.int (p1 &&& (15 : Int32))), .unset] [])) _
    refine XS.iloadN X0.here hx rfl (hb hby at_16) rfl ?_
    show Steps p.tables e below (s₁.setTop (mkF m 17 #[.val (.int p1), .val (.int (p1 &&& (15 : Int32))), .unset] [(.int (p1 &&& (15 : Int32)))])) _
    refine XS.bipush X0.here hx rfl (hb hby at_17) ?_
    show Steps p.tables e below (s₁.setTop (mkF m 19 #[.val (.int p1), .val (.int (p1 &&& (15 : Int32))), .unset] [(.int (9 : Int32)), (.int (p1 &&& (15 : Int32)))])) _
    refine XS.icmpNo X0.here hx rfl (hb hby at_19) rfl (feq hc19).1 ?_
    show Steps p.tables e below (s₁.setTop (mkF m 22 #[.val (.int p1), .val (.int (p1 &&& (15 : Int32))), .unset] [])) _
    refine XS.iloadN X0.here hx rfl (hb hby at_22) rfl ?_
    show Steps p.tables e below (s₁.setTop (mkF m 23 #[.val (.int p1), .val (.int (p1 &&& (15 : Int32))), .unset] [(.int (p1 &&& (15 : Int32)))])) _
    refine XS.bipush X0.here hx rfl (hb hby at_23) ?_
    show Steps p.tables e below (s₁.setTop (mkF m 25 #[.val (.int p1), .val (.int (p1 &&& (15 : Int32))), .unset] [(.int (10 : Int32)), (.int (p1 &&& (15 : Int32)))])) _
    refine XS.icmpYes X0.here hx rfl (pc0 := 25) (pc' := 32) rfl (hb hby at_25) rfl (feq hc25).2 (by decide) (by decide) ?_
    show Steps p.tables e below (s₁.setTop (mkF m 32 #[.val (.int p1), .val (.int (p1 &&& (15 : Int32))), .unset] [])) _
    refine XS.iconst X0.here hx rfl (hb hby at_32) ?_
    show Steps p.tables e below (s₁.setTop (mkF m 33 #[.val (.int p1), .val (.int (p1 &&& (15 : Int32))), .unset] [(.int (0 : Int32))])) _
    refine XS.istoreN X0.here hx rfl (hb hby at_33) rfl (l' := #[.val (.int p1), .val (.int (p1 &&& (15 : Int32))), .val (.int (0 : Int32))]) rfl ?_
    show Steps p.tables e below (s₁.setTop (mkF m 34 #[.val (.int p1), .val (.int (p1 &&& (15 : Int32))), .val (.int (0 : Int32))] [])) _
    refine XS.iloadN X0.here hx rfl (hb hby at_34) rfl ?_
    show Steps p.tables e below (s₁.setTop (mkF m 35 #[.val (.int p1), .val (.int (p1 &&& (15 : Int32))), .val (.int (0 : Int32))] [(.int (p1 &&& (15 : Int32)))])) _
    refine st2 _ ?_
    show Steps p.tables e below (T2.setTop (mkF m 38 #[.val (.int p1), .val (.int (p1 &&& (15 : Int32))), .val (.int (0 : Int32))] [(.int (own_f1 (p1 &&& (15 : Int32))))])) _
    refine XS.iloadN X2.here hx rfl (hb hby at_38) rfl ?_
    show Steps p.tables e below (T2.setTop (mkF m 39 #[.val (.int p1), .val (.int (p1 &&& (15 : Int32))), .val (.int (0 : Int32))] [(.int (0 : Int32)), (.int (own_f1 (p1 &&& (15 : Int32))))])) _
    refine XS.ifNo X2.here hx rfl (hb hby at_39) rfl ((if0 _ _).trans (teq (rfl : (0 : Int32) = (0 : Int32))).2) ?_
    show Steps p.tables e below (T2.setTop (mkF m 42 #[.val (.int p1), .val (.int (p1 &&& (15 : Int32))), .val (.int (0 : Int32))] [(.int (own_f1 (p1 &&& (15 : Int32))))])) _
    refine XS.iconst X2.here hx rfl (hb hby at_42) ?_
    show Steps p.tables e below (T2.setTop (mkF m 43 #[.val (.int p1), .val (.int (p1 &&& (15 : Int32))), .val (.int (0 : Int32))] [(.int (1 : Int32)), (.int (own_f1 (p1 &&& (15 : Int32))))])) _
    refine XS.goto X2.here hx rfl (pc0 := 43) (pc' := 47) rfl (hb hby at_43) (by decide) (by decide) ?_
    show Steps p.tables e below (T2.setTop (mkF m 47 #[.val (.int p1), .val (.int (p1 &&& (15 : Int32))), .val (.int (0 : Int32))] [(.int (1 : Int32)), (.int (own_f1 (p1 &&& (15 : Int32))))])) _
    refine XS.icmpNo X2.here hx rfl (hb hby at_47) rfl (teq ((own_rest p1 hc7 hc13 hc19 hc25) : (own_f1 (p1 &&& (15 : Int32))) = (1 : Int32))).2 ?_
    show Steps p.tables e below (T2.setTop (mkF m 50 #[.val (.int p1), .val (.int (p1 &&& (15 : Int32))), .val (.int (0 : Int32))] [])) _
    refine XS.iconst X2.here hx rfl (hb hby at_50) ?_
    show Steps p.tables e below (T2.setTop (mkF m 51 #[.val (.int p1), .val (.int (p1 &&& (15 : Int32))), .val (.int (0 : Int32))] [(.int (1 : Int32))])) _
    refine XS.goto X2.here hx rfl (pc0 := 51) (pc' := 55) rfl (hb hby at_51) (by decide) (by decide) ?_
    show Steps p.tables e below (T2.setTop (mkF m 55 #[.val (.int p1), .val (.int (p1 &&& (15 : Int32))), .val (.int (0 : Int32))] [(.int (1 : Int32))])) _
    exact retN X2 hx (t := .boolean) Bd.returns (by simp) (hb hby at_55) hr
  · show Q0e Z p1 h0 n0 _ T2.heap _
    exact ⟨rfl, N2⟩
set_option maxRecDepth 65536 in
set_option maxHeartbeats 40000000 in
theorem comes_1 {Post : Tables → Env → Array Value → State → Outcome → State → Prop} (hpost : ∀ tb e args s v u, (limb_1_1.after args s (.returned v) u = true ∧ limb_1_2.after args s (.returned v) u = true ∧ True) → FrameEnd s (.returned v) u (Jvm.fieldLocs frame_1_writes args s ++ Jvm.arrayLocs frame_1_arrays args s ++ Jvm.staticLocs frame_1_statics s) 0 0 → Post tb e args s (.returned v) u) :
    ArmFor flags0 classFile x code maxLocals ret World_1 tables_1 room_1 Calls_1 rest_1 Pre_1 Post := by
  intro l hfl _ _ p e ha hc hk s m args below hf hA hF happ hP
  obtain ⟨hcalls, hrest, hpre⟩ := hP
  obtain ⟨-, -, -, hnamed, -, -, -, hat⟩ := (Spec.applies_iff hf).mp happ
  obtain ⟨hg, hn⟩ := and_e (Cond.before_iff.mp (show (Jvm.Cond.and given_1 narrow_1).before args s = true from hpre))
  obtain ⟨g3, g4⟩ := and_e hg
  obtain ⟨w0, rfl⟩ : ∃ w0 : Value, args = #[w0] := by
    have hs : args.size = 1 := by simpa [Cond.value, given_1] using g3
    obtain ⟨L⟩ := args
    match L, hs with
    | [w0], _ => exact ⟨w0, rfl⟩
  have hw := fun d (hd : d ∈ tables_1) => atoms_spec (ws := Jvm.Cond.code x code maxLocals ret :: tables_1) hat d (List.mem_cons_of_mem _ hd)
  have hfit : Fit s := fun {y c} hc i hi => by
    obtain ⟨ha, rfl⟩ := Array.getElem?_eq_some_iff.mp hc
    have q := List.all_eq_true.mp ((Array.all_eq_true_iff_forall_mem.mp hF) _ (Array.getElem_mem ha)) i (List.mem_range.mpr hi)
    simpa [Array.getElem?_eq_getElem hi] using q
  obtain ⟨i0, ei0⟩ := is_v g4
  obtain rfl : w0 = (.int i0) := Option.some.inj ei0
  have all : MetFree l x (head1 (Jvm.Cond.code x code maxLocals ret :: tables_1) room_1) (fun a U => a = #[(.int i0)] ∧ s.Warmed39 U.vm ∧ U.heap = s.heap) (fun _ _ _ _ _ => True) (fun _ U o U' => ∃ v L, o = .returned v ∧ (v = some (.int 1) ∧ Fr s.heap.size L) ∧ FrameEnd U o U' L room_1.cells room_1.slots) := by
    by_cases q5 : (i0 &&& (15 : Int32)) = (5 : Int32)
    · exact rm0a l s _ hw tables_1 i0 s.heap s.heap.size (Nat.le_refl _) q5 (by decide)
    · by_cases q6 : (i0 &&& (15 : Int32)) = (6 : Int32)
      · exact rm0b l s _ hw tables_1 i0 s.heap s.heap.size (Nat.le_refl _) q5 q6 (by decide)
      · by_cases q9 : (i0 &&& (15 : Int32)) = (9 : Int32)
        · exact rm0c l s _ hw tables_1 i0 s.heap s.heap.size (Nat.le_refl _) q5 q6 q9 (by decide)
        · by_cases q10 : (i0 &&& (15 : Int32)) = (10 : Int32)
          · exact rm0d l s _ hw tables_1 i0 s.heap s.heap.size (Nat.le_refl _) q5 q6 q9 q10 (by decide)
          · exact rm0e l s _ hw tables_1 i0 s.heap s.heap.size (Nat.le_refl _) q5 q6 q9 q10
  obtain ⟨n, o, h1, h2, h3, _, L, rfl, ⟨rfl, N⟩, hq⟩ := all p e ha hc hk s m _ below hf ((Spec.applies_iff_loose hf).mp happ).1 ⟨rfl, State.Warmed39.refl s, rfl⟩ trivial
  refine ⟨n, _, h1, h2, h3, hpost _ _ _ _ _ _ ⟨Cond.after_iff.mpr rfl, Cond.after_iff.mpr (eq_i res_at (Term.int_eval (1)) rfl), trivial⟩ ⟨hq.1, hq.2.1, (hq.2.2.sift fun y hy => Or.inr (N y hy)).mono (by decide) (by decide)⟩⟩
theorem main_1_1 : Claimed_1_1 := comes_1 fun _ _ _ _ _ _ h hF => ⟨h.1, hF⟩
theorem main_1_2 : Claimed_1_2 := comes_1 fun _ _ _ _ _ _ h hF => ⟨h.2.1, hF⟩
end Jvm.Pilot.@@N@@
namespace Jvm.Pilot.@@N@@
open Jvm Jvm.ClassFile Sem Op Lib Jvm.Free Jvm.Stand Jvm.Pilot.@@N@@.Jvm.D
/-! MADE BY PROGRAM (witnessworld.py) out of the Statement's table words and the real class files: 9 classes; the members and pool entries that the words name. The judged class is class 1, her method 1. -/
namespace start1
open Jvm.ClassFile
def u (s : String) : CpInfo := .utf8 (stringToUtf16 s)
/-- a pool by its gaps: so many unusable entries, then the entry; so many at the end -/
def gap : Nat → List CpInfo → List CpInfo
  | 0, r => r
  | n + 1, r => .unusable :: gap n r
def poolList (es : List (Nat × CpInfo)) (last : Nat) : List CpInfo := es.foldr (fun e r => gap e.1 (e.2 :: r)) (gap last [])
def pool (es : List (Nat × CpInfo)) (last : Nat) : Array CpInfo := ⟨poolList es last⟩
def fileOf (pool : Array CpInfo) (this : Nat) (attrs : Array Attribute := #[]) (ms : Array MethodInfo := #[]) (fl : Nat := 33) (sup : Nat := 0) (ifs : Array Nat := #[]) (fds : Array FieldInfo := #[]) : ClassFile where
  minorVersion := 0
  majorVersion := 65
  constantPool := pool
  accessFlags := fl
  thisClass := this
  superClass := sup
  interfaces := ifs
  fields := fds
  methods := ms
  attributes := attrs
def plain (name : String) (sup : Option ClassId) : Class where
  name := name
  kind := .ordinary
  loader := none
  accessFlags := 33
  super := sup
  interfaces := #[]
  cf := none
  fields := #[]
  methods := #[]
  instanceTypes := #[]
  staticTypes := #[]
  resolved := #[]
  callSites := []
  init := .initialized
  statics := none
  mirror := none

def pool0 : Array CpInfo := pool [(5, u "<init>"), (0, u "()V"), (1, .class_ 10), (1, u "java/lang/Object")] 113

def k0m0 : Method := { name := "<init>", desc := "()V", sig := { parameters := [], returnType := none }, accessFlags := 1, code := none }
/-- java/lang/Object -/
def k0 : Class := { plain "java/lang/Object" none with
  accessFlags := 33
  interfaces := #[]
  cf := some (fileOf pool0 8 #[] #[{ accessFlags := 1, nameIndex := 5, descriptorIndex := 6, attributes := #[] }] 33 0 #[] #[])
  fields := #[]
  methods := #[k0m0]
  instanceTypes := #[]
  staticTypes := #[]
  resolved := Array.replicate 124 none
  statics := none }

def pool1 : Array CpInfo := pool [(2, .class_ 4), (1, u "java/lang/Object"), (0, u "<init>"), (0, u "()V"), (0, .methodref 8 9), (0, .class_ 10), (0, .nameAndType 11 12), (0, u "com/example/cardwright/cardwright/games/okiya/Garden"), (0, u "onBorder"), (0, u "(I)Z"), (0, .class_ 14), (0, u "com/example/cardwright/cardwright/games/okiya/GardenOnBorderPinLaw"), (2, u "law")] 3

def k1m0 : Method := { name := "<init>", desc := "()V", sig := { parameters := [], returnType := none }, accessFlags := 2, code := none }
def k1c1 : Code := { maxStack := 2, maxLocals := 3, code := code, exceptionTable := #[], attributes := #[] }
def k1m1 : Method := { name := "law", desc := "(I)Z", sig := { parameters := [.int], returnType := some .boolean }, accessFlags := 9, code := some k1c1 }
/-- com/example/cardwright/cardwright/games/okiya/GardenOnBorderPinLaw -/
def k1 : Class := { plain "com/example/cardwright/cardwright/games/okiya/GardenOnBorderPinLaw" (some 0) with
  accessFlags := 49
  interfaces := #[]
  cf := some (fileOf pool1 13 #[] #[{ accessFlags := 2, nameIndex := 5, descriptorIndex := 6, attributes := #[] }, { accessFlags := 9, nameIndex := 17, descriptorIndex := 12, attributes := #[] }] 49 2 #[] #[])
  fields := #[]
  methods := #[k1m0, k1m1]
  instanceTypes := #[]
  staticTypes := #[]
  resolved := Array.replicate 21 none
  statics := none }

def pool2 : Array CpInfo := pool [(2, .class_ 4), (1, u "java/lang/Object"), (9, .class_ 16), (1, u "com/example/cardwright/cardwright/games/okiya/Garden"), (0, u "tiles"), (0, u "Ljava/util/List;"), (69, u "CELLS"), (0, u "I"), (2, u "SIDE"), (16, u "onBorder"), (0, u "(I)Z")] 23

def k2c0 : Code := { maxStack := 2, maxLocals := 3, code := prog_19_method_7_code, exceptionTable := #[], attributes := #[] }
def k2m0 : Method := { name := "onBorder", desc := "(I)Z", sig := { parameters := [.int], returnType := some .boolean }, accessFlags := 9, code := some k2c0 }
/-- com/example/cardwright/cardwright/games/okiya/Garden -/
def k2 : Class := { plain "com/example/cardwright/cardwright/games/okiya/Garden" (some 0) with
  accessFlags := 49
  interfaces := #[]
  cf := some (fileOf pool2 14 #[] #[{ accessFlags := 9, nameIndex := 109, descriptorIndex := 110, attributes := #[] }] 49 2 #[] #[{ accessFlags := 25, nameIndex := 88, descriptorIndex := 89, attributes := #[] }, { accessFlags := 25, nameIndex := 92, descriptorIndex := 89, attributes := #[] }, { accessFlags := 18, nameIndex := 17, descriptorIndex := 18, attributes := #[] }])
  fields := #[{ name := "CELLS", type := .int, accessFlags := 25, slot := 0, constantValue := 0 }, { name := "SIDE", type := .int, accessFlags := 25, slot := 1, constantValue := 0 }, { name := "tiles", type := (.object "java/util/List"), accessFlags := 18, slot := 0, constantValue := 0 }]
  methods := #[k2m0]
  instanceTypes := #[(.object "java/util/List")]
  staticTypes := #[.int, .int]
  resolved := Array.replicate 134 none
  statics := none }

def pool3 : Array CpInfo := pool [(1, u "java/lang/Cloneable"), (0, .class_ 1), (0, u "java/lang/Object"), (0, .class_ 3)] 3

/-- java/lang/Cloneable -/
def k3 : Class := { plain "java/lang/Cloneable" (some 0) with
  accessFlags := 1537
  interfaces := #[]
  cf := some (fileOf pool3 2 #[] #[] 1537 4 #[] #[])
  fields := #[]
  methods := #[]
  instanceTypes := #[]
  staticTypes := #[]
  resolved := Array.replicate 8 none
  statics := none }

def pool4 : Array CpInfo := pool [(1, u "java/io/Serializable"), (0, .class_ 1), (0, u "java/lang/Object"), (0, .class_ 3)] 3

/-- java/io/Serializable -/
def k4 : Class := { plain "java/io/Serializable" (some 0) with
  accessFlags := 1537
  interfaces := #[]
  cf := some (fileOf pool4 2 #[] #[] 1537 4 #[] #[])
  fields := #[]
  methods := #[]
  instanceTypes := #[]
  staticTypes := #[]
  resolved := Array.replicate 8 none
  statics := none }

/-- the primitive byte -/
def k5 : Class := { plain "byte" none with kind := .primitive 'B', accessFlags := 0x411 }
/-- [B -/
def k6 : Class := { plain "[B" (some 0) with kind := .array 5 .byte, interfaces := #[3, 4], accessFlags := 1041 }

/-- the primitive int -/
def k7 : Class := { plain "int" none with kind := .primitive 'I', accessFlags := 0x411 }
/-- [I -/
def k8 : Class := { plain "[I" (some 0) with kind := .array 7 .int, interfaces := #[3, 4], accessFlags := 1041 }

def heap : Heap := #[]
def classes : Array Class := #[k0, k1, k2, k3, k4, k5, k6, k7, k8]
def interned : List (Array UInt16 × Addr) := []
def slotsUsed : Nat := 0
def theMethod : MethodId := ⟨1, 1⟩
def args0 : Array Value := #[.int 5]
def aboutOver (below : List Frame) : State where
  vm := { classes := classes, interned := interned.toArray }
  heap := heap
  slotsUsed := slotsUsed
  threads := #[{ frames := .invoking theMethod args0 :: below }]
def below0 : List Frame := [.native { method := ⟨0, 0⟩, args := #[] }]
def about1 : State := aboutOver below0
def p0 : Program := .bare "" "" ""
def e0 : Env := launch0.env 0 0 0
theorem w_frames : about1.frames = Frame.invoking theMethod args0 :: below0 := rfl
set_option maxRecDepth 65536 in
theorem w_args : argsFit about1.vm theMethod args0 = true := by decide +kernel
set_option maxRecDepth 65536 in
theorem w_heap : heapFits about1 = true := by decide +kernel
set_option maxRecDepth 65536 in
theorem w_runnable : about1.curStatus? = some .runnable := by decide +kernel
set_option maxRecDepth 65536 in
theorem w_alone : about1.alone = true := by decide +kernel
set_option maxRecDepth 65536 in
theorem w_named : about1.methodNamed? x = some theMethod := by decide +kernel
set_option maxRecDepth 65536 in
theorem w_hears : about1.hears theMethod below0 = true := by decide +kernel
set_option maxRecDepth 65536 in
theorem w_ripe : about1.ripe theMethod args0 below0 = true := by decide +kernel
theorem w_running : about1.status = .running := rfl
set_option maxRecDepth 65536 in
theorem w_room : about1.hasRoom e0.platform room_1 = true :=
  launch0.hasRoom_least _ room_1 (by decide +kernel) (by decide +kernel) (by decide +kernel) (by decide +kernel) (by decide +kernel) (by decide +kernel)
theorem allAtoms_all (ts : List Jvm.Cond) (a : Array Jvm.Value) (st : Jvm.State) : (allAtoms ts).before a st = ts.all (fun c => c.before a st) := by
  induction ts with
  | nil => rfl
  | cons c t ih =>
    show (Jvm.Cond.and c (allAtoms t)).before a st = _
    rw [Jvm.Cond.before_and, ih, List.all_cons]
def words1 : List Jvm.Cond := Jvm.Cond.code x code maxLocals ret :: tables_1
/-- a 'code' word, met by the world's own term for the bytes: nothing is compared byte by byte -/
theorem code_word {y : MethodName} {bytes : ByteArray} {mx : Nat} {rt : Option FieldType} {a : Array Value} {s : State} {m : MethodId} {meth : Method} {c : Code} (h1 : s.methodNamed? y = some m) (h2 : s.vm.method? m = some meth) (h3 : meth.code = some c) (h4 : c.code = bytes)
    (h5 : (c.maxLocals == mx && c.exceptionTable.isEmpty && decide (c.maxStack ≤ mostOperands) && decide (meth.sig.returnType = rt) && !meth.locks && decide (parseMethodDescriptor y.desc = some meth.sig)) = true) : (Jvm.Cond.code y bytes mx rt).before a s = true := by
  simp only [Bool.and_eq_true, beq_iff_eq, Bool.not_eq_true', decide_eq_true_eq] at h5
  obtain ⟨⟨⟨⟨⟨g1, g2⟩, g3⟩, g4⟩, g5⟩, g6⟩ := h5
  simp [Cond.before, Cond.holds, Cond.value, h1, h2, h3, h4, g1, g2, g3, g4, g5, g6]
def isCode : Jvm.Cond → Bool
  | .code _ _ _ _ => true
  | _ => false
theorem all_split {L : List Jvm.Cond} {P : Jvm.Cond → Bool} (h1 : L.all (fun c => isCode c || P c) = true) (h2 : ∀ c ∈ L.filter isCode, P c = true) : L.all P = true := by
  refine List.all_eq_true.mpr fun c hc => ?_
  have h := List.all_eq_true.mp h1 c hc
  rcases Bool.eq_false_or_eq_true (isCode c) with hi | hi
  · exact h2 c (List.mem_filter.mpr ⟨hc, hi⟩)
  · simpa [hi] using h
set_option maxRecDepth 65536 in
theorem w_c0 : (Jvm.Cond.code x code maxLocals ret).before args0 about1 = true := code_word (m := ⟨1, 1⟩) (meth := k1m1) (c := k1c1) (by decide +kernel) rfl rfl rfl (by decide +kernel)
set_option maxRecDepth 65536 in
theorem w_c1 : (Jvm.Cond.code ({ cls := "com/example/cardwright/cardwright/games/okiya/Garden", name := "onBorder", desc := "(I)Z" } : Jvm.MethodName) prog_19_method_7_code (3 : Nat) (Option.some Jvm.ClassFile.FieldType.boolean)).before args0 about1 = true := code_word (m := ⟨2, 0⟩) (meth := k2m0) (c := k2c0) (by decide +kernel) rfl rfl rfl (by decide +kernel)
def codes1 : List Jvm.Cond := [Jvm.Cond.code x code maxLocals ret, Jvm.Cond.code ({ cls := "com/example/cardwright/cardwright/games/okiya/Garden", name := "onBorder", desc := "(I)Z" } : Jvm.MethodName) prog_19_method_7_code (3 : Nat) (Option.some Jvm.ClassFile.FieldType.boolean)]
set_option maxRecDepth 65536 in
theorem codes_eq : words1.filter isCode = codes1 := rfl
theorem w_codes : ∀ c ∈ words1.filter isCode, c.before args0 about1 = true := by
  rw [codes_eq]
  intro c hc
  simp only [codes1, List.mem_cons, List.not_mem_nil, or_false] at hc
  rcases hc with rfl | rfl
  · exact w_c0
  · exact w_c1
set_option maxRecDepth 65536 in
theorem w_t1 : words1.all (fun c => isCode c || c.before args0 about1) = true := by decide +kernel
theorem w_tables : (allAtoms (Jvm.Cond.code x code maxLocals ret :: tables_1)).before args0 about1 = true := by
  rw [allAtoms_all]
  show words1.all (fun c => c.before args0 about1) = true
  refine all_split ?_ w_codes
  rw [w_t1]
set_option maxRecDepth 65536 in
theorem w_case : (Jvm.Cond.and given_1 narrow_1).before args0 about1 = true := by decide +kernel
theorem w_applies : (headSpec (Jvm.Cond.code x code maxLocals ret :: tables_1) room_1).applies x e0.platform about1 = true :=
  (Spec.applies_iff w_frames).mpr ⟨w_running, w_runnable, w_alone, w_named, w_hears, w_ripe, w_room, w_tables⟩
theorem atStart : AtStart classFile x code maxLocals ret World_1 tables_1 room_1 Calls_1 rest_1 Pre_1 launch0 p0 e0 about1 theMethod args0 below0 :=
  ⟨lists_1, trivial, launch0.admits_env _ _ _, launch0.least_env, fairChoices_fair.cas, fairChoices_fair.clock, w_frames, w_args, w_heap, w_applies, trivial, trivial, w_case⟩
end start1
theorem witness_1 : WitnessClaimed_1 := ⟨start1.p0, start1.e0, start1.about1, start1.theMethod, start1.args0, start1.below0, start1.atStart⟩
end Jvm.Pilot.@@N@@
