import JvmDerived
import JvmDerived.Pilot.@@N@@Statement
import JvmDerived.Pilot.@@N@@Code
set_option linter.unusedVariables false
set_option linter.unusedSimpArgs false
namespace Jvm.RoadKit
open Sem ClassFile Op Lib Jvm.Stand Jvm.Free Jvm.LawKit
section New
variable {p : Program} {l : Launch} {e : Env} {R : Room} {s : State} {m : MethodId} {args : Array Value} {below : List Frame} {meth : Method} {c : Code} {T : State} {locs : List Loc} {cells slots : Nat}
theorem retI (X : Stand p l e R s m args below meth c T locs cells slots) (hx : p.tables.exec = Jvm.exec) {pc : Nat} {Ls : Array Slot} {z : Int32} {rest : List Value} (hret : meth.sig.returnType = some .int) (hd : decode c.code pc = .ok (.ireturn, 1)) {fs : List Frame}
    (hl : ∀ (f : JFrame) (acts : List Action), f.method = m → f.locked = none → f.entered = [] → (doReturn e (T.setTop f) acts (some (.int z))).1 = T.setFrames fs) : Steps p.tables e below (T.setTop (mkF m pc Ls (.int z :: rest))) (T.setFrames fs) := by
  have hm' : T.vm.method? m = some meth := X.method'
  have hn : narrow .int (.int z) = .int z := rfl
  show Steps p.tables e below (T.setTop { method := m, pc := pc, locals := Ls, stack := _ :: rest, locked := none }) _
  jvm_step X.here [X.here.top, hx, hd, hm', hret, hn]
  first | (intro acts; rw [hl _ acts rfl rfl rfl]) | rw [hl _ _ rfl rfl rfl]
  exact Steps.refl _
end New
end Jvm.RoadKit
namespace Jvm.Pilot.@@N@@
open Jvm Jvm.ClassFile Sem Op Lib Jvm.Free Jvm.Stand Jvm.LawKit Jvm.RoadKit Bundle Jvm.Pilot.@@N@@.Jvm.D
def own_Qr (h0 : Heap) (n0 : Nat) (r : Value) (v : Option Value) (h : Heap) (L : List Loc) : Prop := v = some r ∧ Fr n0 L ∧ h = h0

theorem own_ti {k : Nat} (h : k < 2147483648) : (Int32.ofNat k).toInt = k := len_toInt (by omega)
theorem own_nc {k : Nat} (h : k < 2147483648) : (Int32.ofNat k).toNatClampNeg = k := by
  simp only [Int32.toNatClampNeg, own_ti h]; omega
theorem own_ltn {i n : Nat} (hi : i < 2147483648) (hn : n < 2147483648) : Int32.ofNat i < Int32.ofNat n ↔ i < n := by
  rw [Int32.lt_iff_toInt_lt, own_ti hi, own_ti hn]; omega
theorem own_nneg {k : Nat} (h : k < 2147483648) : ¬ Int32.ofNat k < 0 := by
  have h0 : (0 : Int32).toInt = 0 := by decide
  rw [Int32.lt_iff_toInt_lt, own_ti h, h0]; omega
theorem own_add1 (k : Nat) : Int32.ofNat k + (1 : Int32) = Int32.ofNat (k + 1) := (Int32.ofNat_add k 1).symm
theorem own_sub1 (k : Nat) : Int32.ofNat (k + 1) - (1 : Int32) = Int32.ofNat k := by
  rw [← own_add1]; exact Int32.add_sub_cancel _ _
theorem own_dec1 (k : Nat) : Int32.ofNat (k + 1) + (-1 : Int32) = Int32.ofNat k := by
  rw [← own_sub1 k, Int32.sub_eq_add_neg]
theorem own_inb {k N : Nat} {cl : Cell} (S : cl.slots.size = N) (h : k < N) (hN : N < 2147483648) : ¬ (Int32.ofNat k < 0 ∨ cl.slots.size ≤ (Int32.ofNat k).toNatClampNeg) := by
  rw [S, own_nc (by omega)]
  rintro (q | q)
  · exact own_nneg (by omega) q
  · omega

def own_AF (Z : State) (h : Heap) (a : Addr) (ty : FieldType) (N : Nat) (f : Nat → Value) : Prop := N < 2147483648 ∧ ∃ cl : Cell, Arr Z h a cl ty ∧ cl.slots.size = N ∧ (∀ j, j < N → cl.slots[j]? = some (f j)) ∧ ∀ j, j < N → fits ty (f j) = true
theorem own_AF.lt {Z : State} {h : Heap} {a : Addr} {ty : FieldType} {N : Nat} {f : Nat → Value} (F : own_AF Z h a ty N f) : a < h.size := by obtain ⟨-, c, A, -⟩ := F; exact A.lt
theorem own_AF.ext {Z : State} {h h' : Heap} {a : Addr} {ty : FieldType} {N : Nat} {f : Nat → Value} (F : own_AF Z h a ty N f) (E : Ext h h') : own_AF Z h' a ty N f := by obtain ⟨q, c, A, r⟩ := F; exact ⟨q, c, A.ext E, r⟩
theorem own_AF.other {Z : State} {h h' : Heap} {a b : Addr} {sl : Nat} {v : Value} {ty : FieldType} {N : Nat} {f : Nat → Value} (F : own_AF Z h b ty N f) (W : Wr h h' a sl v) (q : b ≠ a) : own_AF Z h' b ty N f := by obtain ⟨k, c, A, r⟩ := F; exact ⟨k, c, A.other W q, r⟩
theorem own_AF.keep {Z : State} {h h' : Heap} {a : Addr} {ws : List Addr} {ty : FieldType} {N : Nat} {f : Nat → Value} (F : own_AF Z h a ty N f) (K : Keep h h' ws) (q : a ∉ ws) : own_AF Z h' a ty N f := by obtain ⟨k, c, A, r⟩ := F; exact ⟨k, c, ⟨K.2.1 a c A.1 q, A.2⟩, r⟩
def own_upd {α : Type} (f : Nat → α) (j : Nat) (v : α) : Nat → α := fun k => if k = j then v else f k
theorem own_AF.set {Z : State} {h h' : Heap} {a : Addr} {j : Nat} {v : Value} {ty : FieldType} {N : Nat} {f : Nat → Value} (F : own_AF Z h a ty N f) (W : Wr h h' a j v) (hj : j < N) (hv : fits ty v = true) : own_AF Z h' a ty N (own_upd f j v) := by
  obtain ⟨k, c, A, S, H, G⟩ := F
  refine ⟨k, _, A.same W, by rw [sz_set]; exact S, fun i hi => ?_, fun i hi => ?_⟩
  · show (c.slots.setIfInBounds j v)[i]? = some (if i = j then v else f i)
    by_cases q : i = j
    · subst q
      rw [if_pos rfl, Array.getElem?_setIfInBounds_self_of_lt (by rw [S]; exact hj)]
    · rw [if_neg q, Array.getElem?_setIfInBounds_ne (fun z => q z.symm)]; exact H i hi
  · show fits ty (if i = j then v else f i) = true
    by_cases q : i = j
    · rw [if_pos q]; exact hv
    · rw [if_neg q]; exact G i hi
theorem own_AF.of {Z : State} {h : Heap} {a : Addr} {k : ClassId} {ty : FieldType} {z : Int32} {vs : List Value} {dv : Value} (V : Arv Z h a k ty z vs dv) (N : Nat) (hN : z.toNatClampNeg = N) (f : Nat → Value) (hf : ∀ j, j < N → vs.getD j dv = f j) : own_AF Z h a ty N f := by
  obtain ⟨c, A, -, S, M, H, G⟩ := V
  have hS : c.slots.size = N := S.trans hN
  refine ⟨by rw [← hN]; exact (back32 M).2, c, A, hS, fun j hj => ?_, fun j hj => ?_⟩
  · rw [← hf j hj]; exact H j (by rw [hS]; exact hj)
  · rw [← hf j hj]; exact G j (by rw [hS]; exact hj)
theorem own_AF.arv {Z : State} {h : Heap} {a : Addr} {ty : FieldType} {N : Nat} {f : Nat → Value} (F : own_AF Z h a ty N f) (dv : Value) : ∃ k, Arv Z h a k ty (Int32.ofNat N) ((List.range N).map f) dv := by
  obtain ⟨q, c, A, S, H, G⟩ := F
  have e : ∀ j, j < N → ((List.range N).map f).getD j dv = f j := fun j hj => by simp [List.getD_eq_getElem?_getD, hj]
  refine ⟨c.cls, c, A, rfl, by rw [own_nc q]; exact S, own_nneg q, fun j hj => ?_, fun j hj => ?_⟩
  · rw [S] at hj; rw [e j hj]; exact H j hj
  · rw [S] at hj; rw [e j hj]; exact G j hj
theorem own_AF.congr {Z : State} {h : Heap} {a : Addr} {ty : FieldType} {N : Nat} {f g : Nat → Value} (F : own_AF Z h a ty N f) (e : ∀ j, j < N → f j = g j) : own_AF Z h a ty N g := by
  obtain ⟨q, c, A, S, H, G⟩ := F
  exact ⟨q, c, A, S, fun j hj => by rw [← e j hj]; exact H j hj, fun j hj => by rw [← e j hj]; exact G j hj⟩
theorem d4_0 : decode jdk_29_method_65_code 0 = .ok (.iload_n 0, 1) := by decide +kernel
theorem d4_1 : decode jdk_29_method_65_code 1 = .ok (.iload_n 1, 1) := by decide +kernel
theorem d4_2 : decode jdk_29_method_65_code 2 = .ok (.if_icmp .lt 7, 3) := by decide +kernel
theorem d4_5 : decode jdk_29_method_65_code 5 = .ok (.iload_n 0, 1) := by decide +kernel
theorem d4_6 : decode jdk_29_method_65_code 6 = .ok (.goto 4, 3) := by decide +kernel
theorem d4_10 : decode jdk_29_method_65_code 10 = .ok (.ireturn, 1) := by decide +kernel
theorem ef_4 (m : MethodId) (x0 : Int32) (x1 : Int32) : entryFrame m #[(.int x0), (.int x1)] 2 = mkF m 0 #[.val (.int x0), .val (.int x1)] [] := by first | (simp [entryFrame, mkF, argsToLocals, Value.category]; done) | rfl
def Q4a (Z : State) (p1 : Int32) (p2 : Int32) (h0 : Heap) (n0 : Nat) (v : Option Value) (h : Heap) (L : List Loc) : Prop := v = some (.int p1) ∧ Fr n0 L ∧ h = h0
set_option maxRecDepth 65536 in
set_option maxHeartbeats 40000000 in
theorem rm4a (l : Launch) (Z : State) (a0 : Array Value) (hw : ∀ d ∈ tables_1, d.before a0 Z = true) (ws : List Jvm.Cond) (p1 : Int32) (p2 : Int32) (h0 : Heap) (n0 : Nat) (Z0 : n0 ≤ h0.size) (hc2 : ¬ (p1 < p2)) :
    MetFree l (⟨"java/lang/Math", "max", "(II)I"⟩ : MethodName) (head1 (Jvm.Cond.code (⟨"java/lang/Math", "max", "(II)I"⟩ : MethodName) jdk_29_method_65_code 2 (some .int) :: ws) ({ frames := 0, cells := 0, slots := 0, locals := 0 } : Room)) (fun a U => a = #[(.int p1), (.int p2)] ∧ Z.Warmed39 U.vm ∧ U.heap = h0) (fun _ _ _ _ _ => True) (fun _ U o U' => ∃ v L, o = .returned v ∧ Q4a Z p1 p2 h0 n0 v U'.heap L ∧ FrameEnd U o U' L ({ frames := 0, cells := 0, slots := 0, locals := 0 } : Room).cells ({ frames := 0, cells := 0, slots := 0, locals := 0 } : Room).slots) := by
  refine MetFree.of_bodySF (Jvm.Free.JP.mathPlain rfl (by decide +kernel)) hisR ?_
  intro p e s m args below meth c s₁ Bd hml0 hP hK
  obtain ⟨rfl, hZ, hh⟩ := hP
  have hx := Bd.exec
  have hby := Bd.bytes
  have hml : c.maxLocals = 2 := hml0
  have hown : s.vm.findClass "java/lang/Math" = some m.cls := findClass_of_methodNamed Bd.named
  have hnm := (name_of_methodNamed Bd.named Bd.method).1
  have X0 : Stand p l e ({ frames := 0, cells := 0, slots := 0, locals := 0 } : Room) s m #[(.int p1), (.int p2)] below meth c s₁ [] 0 0 := Stand.of_body Bd
  have e0 : s₁.heap = h0 := by rw [← hh, Bd.state]; rfl
  have N0 := Fr.nil n0
  have pre0 : ∀ t, Steps p.tables e below (s₁.setTop (mkF m 0 #[.val (.int p1), .val (.int p2)] [])) t → Steps p.tables e below (s₁.setTop (entryFrame m #[(.int p1), (.int p2)] 2)) t := fun t k => castTop (ef_4 m p1 p2) k

  obtain ⟨fs, hr, hrun, hended, hW, hsame⟩ := X0.leave (v := some (.int p1)) (fun h => by rw [Bd.returns] at h; cases h)
  refine ⟨_, _, pre0 _ ?_, hrun, hended, _, _, rfl, ?_, ⟨_, rfl⟩, hW, hsame.mono (by decide) (by decide)⟩
  · show Steps p.tables e below (s₁.setTop (mkF m 0 #[.val (.int p1), .val (.int p2)] [])) _
    refine XS.iloadN X0.here hx rfl (hb hby d4_0) rfl ?_
    show Steps p.tables e below (s₁.setTop (mkF m 1 #[.val (.int p1), .val (.int p2)] [(.int p1)])) _
    refine XS.iloadN X0.here hx rfl (hb hby d4_1) rfl ?_
    show Steps p.tables e below (s₁.setTop (mkF m 2 #[.val (.int p1), .val (.int p2)] [(.int p2), (.int p1)])) _
    refine XS.icmpNo X0.here hx rfl (hb hby d4_2) rfl (flt hc2).1 ?_
    show Steps p.tables e below (s₁.setTop (mkF m 5 #[.val (.int p1), .val (.int p2)] [])) _
    refine XS.iloadN X0.here hx rfl (hb hby d4_5) rfl ?_
    show Steps p.tables e below (s₁.setTop (mkF m 6 #[.val (.int p1), .val (.int p2)] [(.int p1)])) _
    refine XS.goto X0.here hx rfl (pc0 := 6) (pc' := 10) rfl (hb hby d4_6) (by decide) (by decide) ?_
    show Steps p.tables e below (s₁.setTop (mkF m 10 #[.val (.int p1), .val (.int p2)] [(.int p1)])) _
    exact retI X0 hx Bd.returns (hb hby d4_10) hr
  · show Q4a Z p1 p2 h0 n0 _ s₁.heap _
    rw [e0]
    exact ⟨rfl, N0, rfl⟩
theorem d4_9 : decode jdk_29_method_65_code 9 = .ok (.iload_n 1, 1) := by decide +kernel
def Q4b (Z : State) (p1 : Int32) (p2 : Int32) (h0 : Heap) (n0 : Nat) (v : Option Value) (h : Heap) (L : List Loc) : Prop := v = some (.int p2) ∧ Fr n0 L ∧ h = h0
set_option maxRecDepth 65536 in
set_option maxHeartbeats 40000000 in
theorem rm4b (l : Launch) (Z : State) (a0 : Array Value) (hw : ∀ d ∈ tables_1, d.before a0 Z = true) (ws : List Jvm.Cond) (p1 : Int32) (p2 : Int32) (h0 : Heap) (n0 : Nat) (Z0 : n0 ≤ h0.size) (hc2 : p1 < p2) :
    MetFree l (⟨"java/lang/Math", "max", "(II)I"⟩ : MethodName) (head1 (Jvm.Cond.code (⟨"java/lang/Math", "max", "(II)I"⟩ : MethodName) jdk_29_method_65_code 2 (some .int) :: ws) ({ frames := 0, cells := 0, slots := 0, locals := 0 } : Room)) (fun a U => a = #[(.int p1), (.int p2)] ∧ Z.Warmed39 U.vm ∧ U.heap = h0) (fun _ _ _ _ _ => True) (fun _ U o U' => ∃ v L, o = .returned v ∧ Q4b Z p1 p2 h0 n0 v U'.heap L ∧ FrameEnd U o U' L ({ frames := 0, cells := 0, slots := 0, locals := 0 } : Room).cells ({ frames := 0, cells := 0, slots := 0, locals := 0 } : Room).slots) := by
  refine MetFree.of_bodySF (Jvm.Free.JP.mathPlain rfl (by decide +kernel)) hisR ?_
  intro p e s m args below meth c s₁ Bd hml0 hP hK
  obtain ⟨rfl, hZ, hh⟩ := hP
  have hx := Bd.exec
  have hby := Bd.bytes
  have hml : c.maxLocals = 2 := hml0
  have hown : s.vm.findClass "java/lang/Math" = some m.cls := findClass_of_methodNamed Bd.named
  have hnm := (name_of_methodNamed Bd.named Bd.method).1
  have X0 : Stand p l e ({ frames := 0, cells := 0, slots := 0, locals := 0 } : Room) s m #[(.int p1), (.int p2)] below meth c s₁ [] 0 0 := Stand.of_body Bd
  have e0 : s₁.heap = h0 := by rw [← hh, Bd.state]; rfl
  have N0 := Fr.nil n0
  have pre0 : ∀ t, Steps p.tables e below (s₁.setTop (mkF m 0 #[.val (.int p1), .val (.int p2)] [])) t → Steps p.tables e below (s₁.setTop (entryFrame m #[(.int p1), (.int p2)] 2)) t := fun t k => castTop (ef_4 m p1 p2) k

  obtain ⟨fs, hr, hrun, hended, hW, hsame⟩ := X0.leave (v := some (.int p2)) (fun h => by rw [Bd.returns] at h; cases h)
  refine ⟨_, _, pre0 _ ?_, hrun, hended, _, _, rfl, ?_, ⟨_, rfl⟩, hW, hsame.mono (by decide) (by decide)⟩
  · show Steps p.tables e below (s₁.setTop (mkF m 0 #[.val (.int p1), .val (.int p2)] [])) _
    refine XS.iloadN X0.here hx rfl (hb hby d4_0) rfl ?_
    show Steps p.tables e below (s₁.setTop (mkF m 1 #[.val (.int p1), .val (.int p2)] [(.int p1)])) _
    refine XS.iloadN X0.here hx rfl (hb hby d4_1) rfl ?_
    show Steps p.tables e below (s₁.setTop (mkF m 2 #[.val (.int p1), .val (.int p2)] [(.int p2), (.int p1)])) _
    refine XS.icmpYes X0.here hx rfl (pc0 := 2) (pc' := 9) rfl (hb hby d4_2) rfl (tlt hc2).1 (by decide) (by decide) ?_
    show Steps p.tables e below (s₁.setTop (mkF m 9 #[.val (.int p1), .val (.int p2)] [])) _
    refine XS.iloadN X0.here hx rfl (hb hby d4_9) rfl ?_
    show Steps p.tables e below (s₁.setTop (mkF m 10 #[.val (.int p1), .val (.int p2)] [(.int p2)])) _
    exact retI X0 hx Bd.returns (hb hby d4_10) hr
  · show Q4b Z p1 p2 h0 n0 _ s₁.heap _
    rw [e0]
    exact ⟨rfl, N0, rfl⟩
def own_f4 (p1 : Int32) (p2 : Int32) : Int32 := (if p1 < p2 then p2 else p1)
theorem rm4 (l : Launch) (Z : State) (a0 : Array Value) (hw : ∀ d ∈ tables_1, d.before a0 Z = true) (ws : List Jvm.Cond) (p1 : Int32) (p2 : Int32) (h0 : Heap) (n0 : Nat) (Z0 : n0 ≤ h0.size) :
    MetFree l (⟨"java/lang/Math", "max", "(II)I"⟩ : MethodName) (head1 (Jvm.Cond.code (⟨"java/lang/Math", "max", "(II)I"⟩ : MethodName) jdk_29_method_65_code 2 (some .int) :: ws) ({ frames := 0, cells := 0, slots := 0, locals := 0 } : Room)) (fun a U => a = #[(.int p1), (.int p2)] ∧ Z.Warmed39 U.vm ∧ U.heap = h0) (fun _ _ _ _ _ => True) (fun _ U o U' => ∃ v L, o = .returned v ∧ own_Qr h0 n0 (.int (own_f4 p1 p2)) v U'.heap L ∧ FrameEnd U o U' L ({ frames := 0, cells := 0, slots := 0, locals := 0 } : Room).cells ({ frames := 0, cells := 0, slots := 0, locals := 0 } : Room).slots) := by
  unfold own_f4
  by_cases hc2 : p1 < p2
  · rw [if_pos hc2]
    exact rm4b l Z a0 hw ws p1 p2 h0 n0 Z0 hc2
  · rw [if_neg hc2]
    exact rm4a l Z a0 hw ws p1 p2 h0 n0 Z0 hc2
theorem d6_0 : decode jdk_29_method_69_code 0 = .ok (.iload_n 0, 1) := by decide +kernel
theorem d6_1 : decode jdk_29_method_69_code 1 = .ok (.iload_n 1, 1) := by decide +kernel
theorem d6_2 : decode jdk_29_method_69_code 2 = .ok (.if_icmp .gt 7, 3) := by decide +kernel
theorem d6_5 : decode jdk_29_method_69_code 5 = .ok (.iload_n 0, 1) := by decide +kernel
theorem d6_6 : decode jdk_29_method_69_code 6 = .ok (.goto 4, 3) := by decide +kernel
theorem d6_10 : decode jdk_29_method_69_code 10 = .ok (.ireturn, 1) := by decide +kernel
theorem ef_6 (m : MethodId) (x0 : Int32) (x1 : Int32) : entryFrame m #[(.int x0), (.int x1)] 2 = mkF m 0 #[.val (.int x0), .val (.int x1)] [] := by first | (simp [entryFrame, mkF, argsToLocals, Value.category]; done) | rfl
def Q6a (Z : State) (p1 : Int32) (p2 : Int32) (h0 : Heap) (n0 : Nat) (v : Option Value) (h : Heap) (L : List Loc) : Prop := v = some (.int p1) ∧ Fr n0 L ∧ h = h0
set_option maxRecDepth 65536 in
set_option maxHeartbeats 40000000 in
theorem rm6a (l : Launch) (Z : State) (a0 : Array Value) (hw : ∀ d ∈ tables_1, d.before a0 Z = true) (ws : List Jvm.Cond) (p1 : Int32) (p2 : Int32) (h0 : Heap) (n0 : Nat) (Z0 : n0 ≤ h0.size) (hc2 : ¬ (p2 < p1)) :
    MetFree l (⟨"java/lang/Math", "min", "(II)I"⟩ : MethodName) (head1 (Jvm.Cond.code (⟨"java/lang/Math", "min", "(II)I"⟩ : MethodName) jdk_29_method_69_code 2 (some .int) :: ws) ({ frames := 0, cells := 0, slots := 0, locals := 0 } : Room)) (fun a U => a = #[(.int p1), (.int p2)] ∧ Z.Warmed39 U.vm ∧ U.heap = h0) (fun _ _ _ _ _ => True) (fun _ U o U' => ∃ v L, o = .returned v ∧ Q6a Z p1 p2 h0 n0 v U'.heap L ∧ FrameEnd U o U' L ({ frames := 0, cells := 0, slots := 0, locals := 0 } : Room).cells ({ frames := 0, cells := 0, slots := 0, locals := 0 } : Room).slots) := by
  refine MetFree.of_bodySF (Jvm.Free.JP.mathPlain rfl (by decide +kernel)) hisR ?_
  intro p e s m args below meth c s₁ Bd hml0 hP hK
  obtain ⟨rfl, hZ, hh⟩ := hP
  have hx := Bd.exec
  have hby := Bd.bytes
  have hml : c.maxLocals = 2 := hml0
  have hown : s.vm.findClass "java/lang/Math" = some m.cls := findClass_of_methodNamed Bd.named
  have hnm := (name_of_methodNamed Bd.named Bd.method).1
  have X0 : Stand p l e ({ frames := 0, cells := 0, slots := 0, locals := 0 } : Room) s m #[(.int p1), (.int p2)] below meth c s₁ [] 0 0 := Stand.of_body Bd
  have e0 : s₁.heap = h0 := by rw [← hh, Bd.state]; rfl
  have N0 := Fr.nil n0
  have pre0 : ∀ t, Steps p.tables e below (s₁.setTop (mkF m 0 #[.val (.int p1), .val (.int p2)] [])) t → Steps p.tables e below (s₁.setTop (entryFrame m #[(.int p1), (.int p2)] 2)) t := fun t k => castTop (ef_6 m p1 p2) k

  obtain ⟨fs, hr, hrun, hended, hW, hsame⟩ := X0.leave (v := some (.int p1)) (fun h => by rw [Bd.returns] at h; cases h)
  refine ⟨_, _, pre0 _ ?_, hrun, hended, _, _, rfl, ?_, ⟨_, rfl⟩, hW, hsame.mono (by decide) (by decide)⟩
  · show Steps p.tables e below (s₁.setTop (mkF m 0 #[.val (.int p1), .val (.int p2)] [])) _
    refine XS.iloadN X0.here hx rfl (hb hby d6_0) rfl ?_
    show Steps p.tables e below (s₁.setTop (mkF m 1 #[.val (.int p1), .val (.int p2)] [(.int p1)])) _
    refine XS.iloadN X0.here hx rfl (hb hby d6_1) rfl ?_
    show Steps p.tables e below (s₁.setTop (mkF m 2 #[.val (.int p1), .val (.int p2)] [(.int p2), (.int p1)])) _
    refine XS.icmpNo X0.here hx rfl (hb hby d6_2) rfl (flt hc2).2.2.1 ?_
    show Steps p.tables e below (s₁.setTop (mkF m 5 #[.val (.int p1), .val (.int p2)] [])) _
    refine XS.iloadN X0.here hx rfl (hb hby d6_5) rfl ?_
    show Steps p.tables e below (s₁.setTop (mkF m 6 #[.val (.int p1), .val (.int p2)] [(.int p1)])) _
    refine XS.goto X0.here hx rfl (pc0 := 6) (pc' := 10) rfl (hb hby d6_6) (by decide) (by decide) ?_
    show Steps p.tables e below (s₁.setTop (mkF m 10 #[.val (.int p1), .val (.int p2)] [(.int p1)])) _
    exact retI X0 hx Bd.returns (hb hby d6_10) hr
  · show Q6a Z p1 p2 h0 n0 _ s₁.heap _
    rw [e0]
    exact ⟨rfl, N0, rfl⟩
theorem d6_9 : decode jdk_29_method_69_code 9 = .ok (.iload_n 1, 1) := by decide +kernel
def Q6b (Z : State) (p1 : Int32) (p2 : Int32) (h0 : Heap) (n0 : Nat) (v : Option Value) (h : Heap) (L : List Loc) : Prop := v = some (.int p2) ∧ Fr n0 L ∧ h = h0
set_option maxRecDepth 65536 in
set_option maxHeartbeats 40000000 in
theorem rm6b (l : Launch) (Z : State) (a0 : Array Value) (hw : ∀ d ∈ tables_1, d.before a0 Z = true) (ws : List Jvm.Cond) (p1 : Int32) (p2 : Int32) (h0 : Heap) (n0 : Nat) (Z0 : n0 ≤ h0.size) (hc2 : p2 < p1) :
    MetFree l (⟨"java/lang/Math", "min", "(II)I"⟩ : MethodName) (head1 (Jvm.Cond.code (⟨"java/lang/Math", "min", "(II)I"⟩ : MethodName) jdk_29_method_69_code 2 (some .int) :: ws) ({ frames := 0, cells := 0, slots := 0, locals := 0 } : Room)) (fun a U => a = #[(.int p1), (.int p2)] ∧ Z.Warmed39 U.vm ∧ U.heap = h0) (fun _ _ _ _ _ => True) (fun _ U o U' => ∃ v L, o = .returned v ∧ Q6b Z p1 p2 h0 n0 v U'.heap L ∧ FrameEnd U o U' L ({ frames := 0, cells := 0, slots := 0, locals := 0 } : Room).cells ({ frames := 0, cells := 0, slots := 0, locals := 0 } : Room).slots) := by
  refine MetFree.of_bodySF (Jvm.Free.JP.mathPlain rfl (by decide +kernel)) hisR ?_
  intro p e s m args below meth c s₁ Bd hml0 hP hK
  obtain ⟨rfl, hZ, hh⟩ := hP
  have hx := Bd.exec
  have hby := Bd.bytes
  have hml : c.maxLocals = 2 := hml0
  have hown : s.vm.findClass "java/lang/Math" = some m.cls := findClass_of_methodNamed Bd.named
  have hnm := (name_of_methodNamed Bd.named Bd.method).1
  have X0 : Stand p l e ({ frames := 0, cells := 0, slots := 0, locals := 0 } : Room) s m #[(.int p1), (.int p2)] below meth c s₁ [] 0 0 := Stand.of_body Bd
  have e0 : s₁.heap = h0 := by rw [← hh, Bd.state]; rfl
  have N0 := Fr.nil n0
  have pre0 : ∀ t, Steps p.tables e below (s₁.setTop (mkF m 0 #[.val (.int p1), .val (.int p2)] [])) t → Steps p.tables e below (s₁.setTop (entryFrame m #[(.int p1), (.int p2)] 2)) t := fun t k => castTop (ef_6 m p1 p2) k

  obtain ⟨fs, hr, hrun, hended, hW, hsame⟩ := X0.leave (v := some (.int p2)) (fun h => by rw [Bd.returns] at h; cases h)
  refine ⟨_, _, pre0 _ ?_, hrun, hended, _, _, rfl, ?_, ⟨_, rfl⟩, hW, hsame.mono (by decide) (by decide)⟩
  · show Steps p.tables e below (s₁.setTop (mkF m 0 #[.val (.int p1), .val (.int p2)] [])) _
    refine XS.iloadN X0.here hx rfl (hb hby d6_0) rfl ?_
    show Steps p.tables e below (s₁.setTop (mkF m 1 #[.val (.int p1), .val (.int p2)] [(.int p1)])) _
    refine XS.iloadN X0.here hx rfl (hb hby d6_1) rfl ?_
    show Steps p.tables e below (s₁.setTop (mkF m 2 #[.val (.int p1), .val (.int p2)] [(.int p2), (.int p1)])) _
    refine XS.icmpYes X0.here hx rfl (pc0 := 2) (pc' := 9) rfl (hb hby d6_2) rfl (tlt hc2).2.2.1 (by decide) (by decide) ?_
    show Steps p.tables e below (s₁.setTop (mkF m 9 #[.val (.int p1), .val (.int p2)] [])) _
    refine XS.iloadN X0.here hx rfl (hb hby d6_9) rfl ?_
    show Steps p.tables e below (s₁.setTop (mkF m 10 #[.val (.int p1), .val (.int p2)] [(.int p2)])) _
    exact retI X0 hx Bd.returns (hb hby d6_10) hr
  · show Q6b Z p1 p2 h0 n0 _ s₁.heap _
    rw [e0]
    exact ⟨rfl, N0, rfl⟩
def own_f6 (p1 : Int32) (p2 : Int32) : Int32 := (if p2 < p1 then p2 else p1)
theorem rm6 (l : Launch) (Z : State) (a0 : Array Value) (hw : ∀ d ∈ tables_1, d.before a0 Z = true) (ws : List Jvm.Cond) (p1 : Int32) (p2 : Int32) (h0 : Heap) (n0 : Nat) (Z0 : n0 ≤ h0.size) :
    MetFree l (⟨"java/lang/Math", "min", "(II)I"⟩ : MethodName) (head1 (Jvm.Cond.code (⟨"java/lang/Math", "min", "(II)I"⟩ : MethodName) jdk_29_method_69_code 2 (some .int) :: ws) ({ frames := 0, cells := 0, slots := 0, locals := 0 } : Room)) (fun a U => a = #[(.int p1), (.int p2)] ∧ Z.Warmed39 U.vm ∧ U.heap = h0) (fun _ _ _ _ _ => True) (fun _ U o U' => ∃ v L, o = .returned v ∧ own_Qr h0 n0 (.int (own_f6 p1 p2)) v U'.heap L ∧ FrameEnd U o U' L ({ frames := 0, cells := 0, slots := 0, locals := 0 } : Room).cells ({ frames := 0, cells := 0, slots := 0, locals := 0 } : Room).slots) := by
  unfold own_f6
  by_cases hc2 : p2 < p1
  · rw [if_pos hc2]
    exact rm6b l Z a0 hw ws p1 p2 h0 n0 Z0 hc2
  · rw [if_neg hc2]
    exact rm6a l Z a0 hw ws p1 p2 h0 n0 Z0 hc2

theorem own_dd (d : Value) : ∀ (l : List Value) (h : ∀ x ∈ l, x = d) (k : Nat), l.getD k d = d := fun l h k => by
  rw [List.getD_eq_getElem?_getD]
  cases q : l[k]? with
  | none => rfl
  | some v => exact h v (List.mem_of_getElem? q)
theorem own_cpl (f : Nat → Value) (d : Value) (n N : Nat) (j : Nat) : (((List.range N).map (fun _ => d)).take 0 ++ (List.range n).map (fun i => ((List.range n).map f).getD (0 + i) d) ++ ((List.range N).map (fun _ => d)).drop (0 + n)).getD j d = if j < n then f j else d := by
  rw [List.take_zero, List.nil_append]
  by_cases q : j < n
  · rw [if_pos q, List.getD_eq_getElem?_getD, List.getElem?_append_left (by simpa using q)]
    simp [List.getD_eq_getElem?_getD, q]
  · rw [if_neg q, List.getD_eq_getElem?_getD, List.getElem?_append_right (by simpa using q), ← List.getD_eq_getElem?_getD]
    refine own_dd d _ (fun x hx => ?_) _
    have hx' := List.mem_of_mem_drop hx
    simp only [List.mem_map] at hx'
    obtain ⟨_, _, e⟩ := hx'
    exact e.symm
theorem own_min (a b : Nat) (h : a < b) (hb' : b < 2147483648) : own_f6 (Int32.ofNat a) (Int32.ofNat b) = Int32.ofNat a := by
  unfold own_f6
  rw [if_neg]
  rw [own_ltn hb' (by omega)]; omega
theorem d5_0 : decode jdk_65_method_123_code 0 = .ok (.iload_n 1, 1) := by decide +kernel
theorem d5_1 : decode jdk_65_method_123_code 1 = .ok (.aload_n 0, 1) := by decide +kernel
theorem d5_2 : decode jdk_65_method_123_code 2 = .ok (.arraylength, 1) := by decide +kernel
theorem d5_3 : decode jdk_65_method_123_code 3 = .ok (.if_icmp .ne 11, 3) := by decide +kernel
theorem d5_14 : decode jdk_65_method_123_code 14 = .ok (.iload_n 1, 1) := by decide +kernel
theorem d5_15 : decode jdk_65_method_123_code 15 = .ok (.newarray .int, 2) := by decide +kernel
theorem d5_17 : decode jdk_65_method_123_code 17 = .ok (.astore_n 2, 1) := by decide +kernel
theorem d5_18 : decode jdk_65_method_123_code 18 = .ok (.aload_n 0, 1) := by decide +kernel
theorem d5_19 : decode jdk_65_method_123_code 19 = .ok (.iconst 0, 1) := by decide +kernel
theorem d5_20 : decode jdk_65_method_123_code 20 = .ok (.aload_n 2, 1) := by decide +kernel
theorem d5_21 : decode jdk_65_method_123_code 21 = .ok (.iconst 0, 1) := by decide +kernel
theorem d5_22 : decode jdk_65_method_123_code 22 = .ok (.aload_n 0, 1) := by decide +kernel
theorem d5_23 : decode jdk_65_method_123_code 23 = .ok (.arraylength, 1) := by decide +kernel
theorem d5_24 : decode jdk_65_method_123_code 24 = .ok (.iload_n 1, 1) := by decide +kernel
theorem d5_25 : decode jdk_65_method_123_code 25 = .ok (.invokestatic 304, 3) := by decide +kernel
theorem pd_5_2 : parseMethodDescriptor "(II)I" = some ⟨[.int, .int], some .int⟩ := by decide +kernel
theorem os5_17 {z0 : Value} {z1 : Value} {s2 : Slot} {v : Addr} (h : One s2) : storeLocals #[.val z0, .val z1, s2] 2 (.ref v) = some #[.val z0, .val z1, .val (.ref v)] := by
  rcases h with rfl | ⟨w, rfl, hw⟩
  · rfl
  · cases w <;> first | rfl | (simp [Value.category] at hw)
set_option maxRecDepth 65536 in
set_option maxHeartbeats 40000000 in
theorem tn5_0_28 {p : Program} {l : Launch} {e : Env} {s : State} {m : MethodId} {args : Array Value} {below : List Frame} {meth : Method} {c : Code} {T0 : State} {locs : List Loc} {Z : State} {a0 : Array Value} {h0 : Heap} {n0 : Nat} (o0 : Addr) (i1 : Int32) (cl_o0 : Cell) (z_o0 : Int32)
    (X0 : Stand p l e ({ frames := 1, cells := 1, slots := 30, locals := 18 } : Room) s m args below meth c T0 locs 0 0) (hx : p.tables.exec = Jvm.exec) (hZ : Z.Warmed39 s.vm) (hw : ∀ d ∈ tables_1, d.before a0 Z = true) (hby : c.code = jdk_65_method_123_code) (hml : c.maxLocals = 3) (hown : s.vm.findClass "java/util/Arrays" = some m.cls) (e0 : T0.heap = h0) (N0 : Fr n0 locs) (Z0 : n0 ≤ h0.size) (Ar_o0 : Arr Z h0 o0 cl_o0 .int) (S_o0 : cl_o0.slots.size = z_o0.toNatClampNeg) (N_o0 : ¬ z_o0 < 0) (hs2 : One .unset) (hc3 : ¬ (i1 = z_o0)) (hnn : ¬ i1 < 0) (hcap : i1.toNatClampNeg ≤ 30) :
    ∃ (b3 : Addr) (T' : State) (h' : Heap) (locs' : List Loc), Stand p l e ({ frames := 1, cells := 1, slots := 30, locals := 18 } : Room) s m args below meth c T' locs' 1 30 ∧ T'.heap = h' ∧ Fr n0 locs' ∧ n0 ≤ h'.size ∧ (own_AF Z h' b3 .int i1.toNatClampNeg (fun _ => (.int 0)) ∧ n0 ≤ b3 ∧ h0.size ≤ b3 ∧ Keep h0 h' []) ∧
      ∀ target, Steps p.tables e below (T'.setTop (mkF m 28 #[.val (.ref o0), .val (.int i1), .val (.ref b3)] [(.int (own_f6 z_o0 i1)), (.int (0 : Int32)), (.ref b3), (.int (0 : Int32)), (.ref o0)])) target → Steps p.tables e below (T0.setTop (mkF m 0 #[.val (.ref o0), .val (.int i1), .unset] [])) target := by
  obtain ⟨T3, h3, k3, X3, e3, E3, A3, st3⟩ := newP X0 hx hZ (hw _ (List.mem_of_getElem? (i := 9) rfl)) e0 (g := (mkF m 15 #[.val (.ref o0), .val (.int i1), .unset] [(.int i1)])) rfl (hb hby d5_15) rfl hnn (cap := 30) hcap (by decide) (by decide) (by decide)
  obtain ⟨b3, g3⟩ : ∃ z, z = h0.size := ⟨_, rfl⟩
  rw [← g3] at A3 st3
  have V_b3 := Arv.new A3 hnn
  have g_b3 : n0 ≤ b3 := Nat.le_trans Z0 (Nat.le_of_eq g3.symm)
  have sz_b3 : h0.size ≤ b3 := (Nat.le_trans (Keep.refl h0 []).1 (Nat.le_of_eq g3.symm))
  have K3 : Keep h0 h3 [] := (Keep.refl h0 []).ext E3
  obtain ⟨_, _, ⟨T4, L4, k4, n4⟩, -, X4, ⟨Lc4, hQ4, l4, y4, z4⟩, st4⟩ := Jvm.LawKit.callS X3 hx (y := (⟨"java/lang/Math", "min", "(II)I"⟩ : MethodName)) hown (mvT hZ (hw _ (List.mem_of_getElem? (i := 31) rfl))) (mvT hZ (hw _ (List.mem_of_getElem? (i := 32) rfl))) (mvT hZ (hw _ (List.mem_of_getElem? (i := 25) rfl))) (mvT hZ (hw _ (List.mem_of_getElem? (i := 33) rfl))) (by decide) (backOf (W := 4) (rm6 l Z a0 hw [] z_o0 i1 h3 n0 (Nat.le_trans Z0 E3.1)) hZ (hw _ (List.mem_of_getElem? (i := 33) rfl)) (hw _ (List.mem_of_getElem? (i := 25) rfl)) (by decide) (by decide)) (g := (mkF m 25 #[.val (.ref o0), .val (.int i1), .val (.ref b3)] [(.int i1), (.int z_o0), (.int (0 : Int32)), (.ref b3), (.int (0 : Int32)), (.ref o0)])) rfl (by rw [hml]; rfl) (argsL := [(.int z_o0), (.int i1)]) (rest := [(.int (0 : Int32)), (.ref b3), (.int (0 : Int32)), (.ref o0)]) (lenOf pd_5_2 rfl) rfl (by show 2 * 0 + _ ≤ _; exact Nat.le_of_eq rfl) (hb hby d5_25) (fun _ _ => ⟨rfl, e3, (Nat.le_of_ble_eq_true rfl), (Nat.le_of_ble_eq_true rfl)⟩)
  dsimp only [Pt.U, Pt.locs, Pt.cells, Pt.slots] at X4 l4 y4 z4 st4 hQ4
  subst l4 y4 z4
  obtain ⟨rfl, N4q, q4⟩ := hQ4
  have N4 := Fr.app N0 N4q
  refine ⟨b3, T4, _, _, X4, rfl, N4, (by rw [q4]; exact Nat.le_trans Z0 E3.1), ⟨by rw [q4]; exact own_AF.of V_b3 _ rfl _ (fun j _ => rfl), g_b3, sz_b3, by rw [q4]; exact K3⟩, fun target kt => ?_⟩
  show Steps p.tables e below (T0.setTop (mkF m 0 #[.val (.ref o0), .val (.int i1), .unset] [])) _
  refine XS.iloadN X0.here hx rfl (hb hby d5_0) rfl ?_
  show Steps p.tables e below (T0.setTop (mkF m 1 #[.val (.ref o0), .val (.int i1), .unset] [(.int i1)])) _
  refine XS.aloadN X0.here hx rfl (hb hby d5_1) rfl rfl ?_
  show Steps p.tables e below (T0.setTop (mkF m 2 #[.val (.ref o0), .val (.int i1), .unset] [(.ref o0), (.int i1)])) _
  refine X0.arraylength hx (by rw [e0]; exact Ar_o0.1) (State.isArrayOf_alike hZ.alike Ar_o0.2.1) (g := (mkF m 2 #[.val (.ref o0), .val (.int i1), .unset] [(.ref o0), (.int i1)])) rfl rfl (hb hby d5_2) _ ?_
  rw [len_of S_o0 N_o0]
  show Steps p.tables e below (T0.setTop (mkF m 3 #[.val (.ref o0), .val (.int i1), .unset] [(.int z_o0), (.int i1)])) _
  refine XS.icmpYes X0.here hx rfl (pc0 := 3) (pc' := 14) rfl (hb hby d5_3) rfl (feq hc3).2 (by decide) (by decide) ?_
  show Steps p.tables e below (T0.setTop (mkF m 14 #[.val (.ref o0), .val (.int i1), .unset] [])) _
  refine XS.iloadN X0.here hx rfl (hb hby d5_14) rfl ?_
  show Steps p.tables e below (T0.setTop (mkF m 15 #[.val (.ref o0), .val (.int i1), .unset] [(.int i1)])) _
  refine st3 _ ?_
  show Steps p.tables e below (T3.setTop (mkF m 17 #[.val (.ref o0), .val (.int i1), .unset] [(.ref b3)])) _
  refine XS.astoreN X3.here hx rfl (hb hby d5_17) rfl rfl (l' := #[.val (.ref o0), .val (.int i1), .val (.ref b3)]) (os5_17 hs2) ?_
  show Steps p.tables e below (T3.setTop (mkF m 18 #[.val (.ref o0), .val (.int i1), .val (.ref b3)] [])) _
  refine XS.aloadN X3.here hx rfl (hb hby d5_18) rfl rfl ?_
  show Steps p.tables e below (T3.setTop (mkF m 19 #[.val (.ref o0), .val (.int i1), .val (.ref b3)] [(.ref o0)])) _
  refine XS.iconst X3.here hx rfl (hb hby d5_19) ?_
  show Steps p.tables e below (T3.setTop (mkF m 20 #[.val (.ref o0), .val (.int i1), .val (.ref b3)] [(.int (0 : Int32)), (.ref o0)])) _
  refine XS.aloadN X3.here hx rfl (hb hby d5_20) rfl rfl ?_
  show Steps p.tables e below (T3.setTop (mkF m 21 #[.val (.ref o0), .val (.int i1), .val (.ref b3)] [(.ref b3), (.int (0 : Int32)), (.ref o0)])) _
  refine XS.iconst X3.here hx rfl (hb hby d5_21) ?_
  show Steps p.tables e below (T3.setTop (mkF m 22 #[.val (.ref o0), .val (.int i1), .val (.ref b3)] [(.int (0 : Int32)), (.ref b3), (.int (0 : Int32)), (.ref o0)])) _
  refine XS.aloadN X3.here hx rfl (hb hby d5_22) rfl rfl ?_
  show Steps p.tables e below (T3.setTop (mkF m 23 #[.val (.ref o0), .val (.int i1), .val (.ref b3)] [(.ref o0), (.int (0 : Int32)), (.ref b3), (.int (0 : Int32)), (.ref o0)])) _
  refine X3.arraylength hx (by rw [e3]; exact (Ar_o0.ext E3).1) (State.isArrayOf_alike hZ.alike Ar_o0.2.1) (g := (mkF m 23 #[.val (.ref o0), .val (.int i1), .val (.ref b3)] [(.ref o0), (.int (0 : Int32)), (.ref b3), (.int (0 : Int32)), (.ref o0)])) rfl rfl (hb hby d5_23) _ ?_
  rw [len_of S_o0 N_o0]
  show Steps p.tables e below (T3.setTop (mkF m 24 #[.val (.ref o0), .val (.int i1), .val (.ref b3)] [(.int z_o0), (.int (0 : Int32)), (.ref b3), (.int (0 : Int32)), (.ref o0)])) _
  refine XS.iloadN X3.here hx rfl (hb hby d5_24) rfl ?_
  show Steps p.tables e below (T3.setTop (mkF m 25 #[.val (.ref o0), .val (.int i1), .val (.ref b3)] [(.int i1), (.int z_o0), (.int (0 : Int32)), (.ref b3), (.int (0 : Int32)), (.ref o0)])) _
  refine st4 _ ?_
  exact kt
theorem d5_28 : decode jdk_65_method_123_code 28 = .ok (.invokestatic 150, 3) := by decide +kernel
theorem d5_31 : decode jdk_65_method_123_code 31 = .ok (.aload_n 2, 1) := by decide +kernel
theorem d5_32 : decode jdk_65_method_123_code 32 = .ok (.areturn, 1) := by decide +kernel
theorem pn_5 : plainName "java/util/Arrays" = true := by first | (simp [plainName, overriddenIn]; done) | decide +kernel
theorem ef_5 (m : MethodId) (x0 : Addr) (x1 : Int32) : entryFrame m #[(.ref x0), (.int x1)] 3 = mkF m 0 #[.val (.ref x0), .val (.int x1), .unset] [] := by first | (simp [entryFrame, mkF, argsToLocals, Value.category]; done) | rfl

def Q5 (Z : State) (N0L N1 : Nat) (f : Nat → Value) (h0 : Heap) (n0 : Nat) (v : Option Value) (h : Heap) (L : List Loc) : Prop := ∃ b : Addr, v = some (.ref b) ∧ Fr n0 L ∧ Keep h0 h [] ∧ h0.size ≤ b ∧ own_AF Z h b .int N1 (fun j => if j < N0L then f j else (.int 0))

set_option maxRecDepth 65536 in
set_option maxHeartbeats 40000000 in
theorem rm5 (l : Launch) (Z : State) (a0 : Array Value) (hw : ∀ d ∈ tables_1, d.before a0 Z = true) (ws : List Jvm.Cond) (a1 : Addr) (N0L N1 : Nat) (hlt : N0L < N1) (hcap : N1 ≤ 30) (f : Nat → Value) (h0 : Heap) (n0 : Nat) (Z0 : n0 ≤ h0.size) (V : own_AF Z h0 a1 .int N0L f) :
    MetFree l (⟨"java/util/Arrays", "copyOf", "([II)[I"⟩ : MethodName) (head1 (Jvm.Cond.code (⟨"java/util/Arrays", "copyOf", "([II)[I"⟩ : MethodName) jdk_65_method_123_code 3 (some (.array .int)) :: ws) ({ frames := 1, cells := 1, slots := 30, locals := 18 } : Room)) (fun a U => a = #[(.ref a1), (.int (Int32.ofNat N1))] ∧ Z.Warmed39 U.vm ∧ U.heap = h0) (fun _ _ _ _ _ => True) (fun _ U o U' => ∃ v L, o = .returned v ∧ Q5 Z N0L N1 f h0 n0 v U'.heap L ∧ FrameEnd U o U' L ({ frames := 1, cells := 1, slots := 30, locals := 18 } : Room).cells ({ frames := 1, cells := 1, slots := 30, locals := 18 } : Room).slots) := by
  refine MetFree.of_bodySF (plainFor_of_name pn_5) hisR ?_
  intro p e s m args below meth c s₁ Bd hml0 hP hK
  obtain ⟨rfl, hZ, hh⟩ := hP
  have hx := Bd.exec
  have hby := Bd.bytes
  have hml : c.maxLocals = 3 := hml0
  have hown : s.vm.findClass "java/util/Arrays" = some m.cls := findClass_of_methodNamed Bd.named
  have X0 : Stand p l e ({ frames := 1, cells := 1, slots := 30, locals := 18 } : Room) s m #[(.ref a1), (.int (Int32.ofNat N1))] below meth c s₁ [] 0 0 := Stand.of_body Bd
  have e0 : s₁.heap = h0 := by rw [← hh, Bd.state]; rfl
  have N0 := Fr.nil n0
  have pre0 : ∀ t, Steps p.tables e below (s₁.setTop (mkF m 0 #[.val (.ref a1), .val (.int (Int32.ofNat N1)), .unset] [])) t → Steps p.tables e below (s₁.setTop (entryFrame m #[(.ref a1), (.int (Int32.ofNat N1))] 3)) t := fun t k => castTop (ef_5 m a1 (Int32.ofNat N1)) k
  obtain ⟨hq, cl, Ar, S, H, Gf⟩ := id V
  obtain ⟨b, T1, h1, l1, X1, e1, N1', Z1, ⟨VB, gb, sb, K1⟩, st1⟩ := tn5_0_28 a1 (Int32.ofNat N1) cl (Int32.ofNat N0L) X0 hx hZ hw hby hml hown e0 N0 Z0 Ar (by rw [own_nc hq]; exact S) (own_nneg hq) One.u (fun z => by have := congrArg Int32.toInt z; rw [own_ti (by omega), own_ti hq] at this; omega) (own_nneg (by omega)) (by rw [own_nc (by omega)]; exact hcap)
  rw [own_min N0L N1 hlt (by omega)] at st1
  rw [own_nc (by omega)] at VB
  obtain ⟨ka, VA⟩ := (V.keep K1 nin0).arv (.int 0)
  obtain ⟨kb, VC⟩ := VB.arv (.int 0)
  obtain ⟨T2, h2, l2, X2, e2, N2, K2, V2, st2⟩ := cpA X1 hx hZ hown (hw _ (List.mem_of_getElem? (i := 34) rfl)) (hw _ (List.mem_of_getElem? (i := 37) rfl)) (hw _ (List.mem_of_getElem? (i := 35) rfl)) (hw _ (List.mem_of_getElem? (i := 36) rfl)) e1 VA VC (Or.inl ⟨rfl, rfl⟩) (sp := 0) (dp := 0) (nn := Int32.ofNat N0L) (by decide) (by decide) (own_nneg hq) (by rw [own_nc hq]; exact Nat.le_of_eq (Nat.zero_add _)) (by rw [own_nc hq, own_nc (by omega)]; show 0 + _ ≤ _; omega) rfl (by rw [own_nc hq]; simp; omega) N1' gb (g := (mkF m 28 #[.val (.ref a1), .val (.int (Int32.ofNat N1)), .val (.ref b)] [(.int (Int32.ofNat N0L)), (.int (0 : Int32)), (.ref b), (.int (0 : Int32)), (.ref a1)])) rfl (by rw [hml]; rfl) rfl (hb hby d5_28) (by decide) (W := 0) (by show 2 * 0 + _ ≤ _; exact Nat.le_of_eq rfl) (by decide)
  rw [own_nc hq] at V2
  have V3 : own_AF Z h2 b .int N1 (fun j => if j < N0L then f j else (.int 0)) := own_AF.of V2 N1 (own_nc (by omega)) _ (fun j hj => own_cpl f (.int 0) N0L N1 j)
  obtain ⟨fs, hr, hrun, hended, hW, hsame⟩ := X2.leave (v := some (.ref b)) (fun h => by rw [Bd.returns] at h; cases h)
  refine ⟨_, _, pre0 _ ?_, hrun, hended, _, _, rfl, ?_, ⟨_, rfl⟩, hW, hsame.mono (by decide) (by decide)⟩
  · refine st1 _ (st2 _ ?_)
    show Steps p.tables e below (T2.setTop (mkF m 31 #[.val (.ref a1), .val (.int (Int32.ofNat N1)), .val (.ref b)] [])) _
    refine XS.aloadN X2.here hx rfl (hb hby d5_31) rfl rfl ?_
    show Steps p.tables e below (T2.setTop (mkF m 32 #[.val (.ref a1), .val (.int (Int32.ofNat N1)), .val (.ref b)] [(.ref b)])) _
    jvm_step X2.here [X2.here.top, hx, (hb hby d5_32), X2.method', Bd.returns, Value.isRef, FieldType.isReference]
    first | (intro acts; rw [hr _ acts rfl rfl rfl]) | rw [hr _ _ rfl rfl rfl]
    exact Steps.refl _
  · show Q5 Z N0L N1 f h0 n0 _ T2.heap _
    rw [e2]
    exact ⟨b, rfl, N2, K1.trans K2 (allS (Or.inr sb) all0), sb, V3⟩
set_option maxRecDepth 65536 in
set_option maxHeartbeats 40000000 in
theorem own_c5b {p : Program} {l : Launch} {e : Env} {s : State} {m : MethodId} {args : Array Value} {below : List Frame} {meth : Method} {c : Code} {T0 : State} {locs : List Loc} {Z : State} {a0 : Array Value} {h0 : Heap} {n0 : Nat} (o0 : Addr) (i1 : Int32) (cl_o0 : Cell) (z_o0 : Int32)
    (X0 : Stand p l e ({ frames := 1, cells := 1, slots := 16, locals := 18 } : Room) s m args below meth c T0 locs 0 0) (hx : p.tables.exec = Jvm.exec) (hZ : Z.Warmed39 s.vm) (hw : ∀ d ∈ tables_1, d.before a0 Z = true) (hby : c.code = jdk_65_method_123_code) (hml : c.maxLocals = 3) (hown : s.vm.findClass "java/util/Arrays" = some m.cls) (e0 : T0.heap = h0) (N0 : Fr n0 locs) (Z0 : n0 ≤ h0.size) (Ar_o0 : Arr Z h0 o0 cl_o0 .int) (S_o0 : cl_o0.slots.size = z_o0.toNatClampNeg) (N_o0 : ¬ z_o0 < 0) (hs2 : One .unset) (hc3 : ¬ (i1 = z_o0)) (hnn : ¬ i1 < 0) (hcap : i1.toNatClampNeg ≤ 16) :
    ∃ (b3 : Addr) (T' : State) (h' : Heap) (locs' : List Loc), Stand p l e ({ frames := 1, cells := 1, slots := 16, locals := 18 } : Room) s m args below meth c T' locs' 1 16 ∧ T'.heap = h' ∧ Fr n0 locs' ∧ n0 ≤ h'.size ∧ (own_AF Z h' b3 .int i1.toNatClampNeg (fun _ => (.int 0)) ∧ n0 ≤ b3 ∧ h0.size ≤ b3 ∧ Keep h0 h' []) ∧
      ∀ target, Steps p.tables e below (T'.setTop (mkF m 28 #[.val (.ref o0), .val (.int i1), .val (.ref b3)] [(.int (own_f6 z_o0 i1)), (.int (0 : Int32)), (.ref b3), (.int (0 : Int32)), (.ref o0)])) target → Steps p.tables e below (T0.setTop (mkF m 0 #[.val (.ref o0), .val (.int i1), .unset] [])) target := by
  obtain ⟨T3, h3, k3, X3, e3, E3, A3, st3⟩ := newP X0 hx hZ (hw _ (List.mem_of_getElem? (i := 9) rfl)) e0 (g := (mkF m 15 #[.val (.ref o0), .val (.int i1), .unset] [(.int i1)])) rfl (hb hby d5_15) rfl hnn (cap := 16) hcap (by decide) (by decide) (by decide)
  obtain ⟨b3, g3⟩ : ∃ z, z = h0.size := ⟨_, rfl⟩
  rw [← g3] at A3 st3
  have V_b3 := Arv.new A3 hnn
  have g_b3 : n0 ≤ b3 := Nat.le_trans Z0 (Nat.le_of_eq g3.symm)
  have sz_b3 : h0.size ≤ b3 := (Nat.le_trans (Keep.refl h0 []).1 (Nat.le_of_eq g3.symm))
  have K3 : Keep h0 h3 [] := (Keep.refl h0 []).ext E3
  obtain ⟨_, _, ⟨T4, L4, k4, n4⟩, -, X4, ⟨Lc4, hQ4, l4, y4, z4⟩, st4⟩ := Jvm.LawKit.callS X3 hx (y := (⟨"java/lang/Math", "min", "(II)I"⟩ : MethodName)) hown (mvT hZ (hw _ (List.mem_of_getElem? (i := 31) rfl))) (mvT hZ (hw _ (List.mem_of_getElem? (i := 32) rfl))) (mvT hZ (hw _ (List.mem_of_getElem? (i := 25) rfl))) (mvT hZ (hw _ (List.mem_of_getElem? (i := 33) rfl))) (by decide) (backOf (W := 4) (rm6 l Z a0 hw [] z_o0 i1 h3 n0 (Nat.le_trans Z0 E3.1)) hZ (hw _ (List.mem_of_getElem? (i := 33) rfl)) (hw _ (List.mem_of_getElem? (i := 25) rfl)) (by decide) (by decide)) (g := (mkF m 25 #[.val (.ref o0), .val (.int i1), .val (.ref b3)] [(.int i1), (.int z_o0), (.int (0 : Int32)), (.ref b3), (.int (0 : Int32)), (.ref o0)])) rfl (by rw [hml]; rfl) (argsL := [(.int z_o0), (.int i1)]) (rest := [(.int (0 : Int32)), (.ref b3), (.int (0 : Int32)), (.ref o0)]) (lenOf pd_5_2 rfl) rfl (by show 2 * 0 + _ ≤ _; exact Nat.le_of_eq rfl) (hb hby d5_25) (fun _ _ => ⟨rfl, e3, (Nat.le_of_ble_eq_true rfl), (Nat.le_of_ble_eq_true rfl)⟩)
  dsimp only [Pt.U, Pt.locs, Pt.cells, Pt.slots] at X4 l4 y4 z4 st4 hQ4
  subst l4 y4 z4
  obtain ⟨rfl, N4q, q4⟩ := hQ4
  have N4 := Fr.app N0 N4q
  refine ⟨b3, T4, _, _, X4, rfl, N4, (by rw [q4]; exact Nat.le_trans Z0 E3.1), ⟨by rw [q4]; exact own_AF.of V_b3 _ rfl _ (fun j _ => rfl), g_b3, sz_b3, by rw [q4]; exact K3⟩, fun target kt => ?_⟩
  show Steps p.tables e below (T0.setTop (mkF m 0 #[.val (.ref o0), .val (.int i1), .unset] [])) _
  refine XS.iloadN X0.here hx rfl (hb hby d5_0) rfl ?_
  show Steps p.tables e below (T0.setTop (mkF m 1 #[.val (.ref o0), .val (.int i1), .unset] [(.int i1)])) _
  refine XS.aloadN X0.here hx rfl (hb hby d5_1) rfl rfl ?_
  show Steps p.tables e below (T0.setTop (mkF m 2 #[.val (.ref o0), .val (.int i1), .unset] [(.ref o0), (.int i1)])) _
  refine X0.arraylength hx (by rw [e0]; exact Ar_o0.1) (State.isArrayOf_alike hZ.alike Ar_o0.2.1) (g := (mkF m 2 #[.val (.ref o0), .val (.int i1), .unset] [(.ref o0), (.int i1)])) rfl rfl (hb hby d5_2) _ ?_
  rw [len_of S_o0 N_o0]
  show Steps p.tables e below (T0.setTop (mkF m 3 #[.val (.ref o0), .val (.int i1), .unset] [(.int z_o0), (.int i1)])) _
  refine XS.icmpYes X0.here hx rfl (pc0 := 3) (pc' := 14) rfl (hb hby d5_3) rfl (feq hc3).2 (by decide) (by decide) ?_
  show Steps p.tables e below (T0.setTop (mkF m 14 #[.val (.ref o0), .val (.int i1), .unset] [])) _
  refine XS.iloadN X0.here hx rfl (hb hby d5_14) rfl ?_
  show Steps p.tables e below (T0.setTop (mkF m 15 #[.val (.ref o0), .val (.int i1), .unset] [(.int i1)])) _
  refine st3 _ ?_
  show Steps p.tables e below (T3.setTop (mkF m 17 #[.val (.ref o0), .val (.int i1), .unset] [(.ref b3)])) _
  refine XS.astoreN X3.here hx rfl (hb hby d5_17) rfl rfl (l' := #[.val (.ref o0), .val (.int i1), .val (.ref b3)]) (os5_17 hs2) ?_
  show Steps p.tables e below (T3.setTop (mkF m 18 #[.val (.ref o0), .val (.int i1), .val (.ref b3)] [])) _
  refine XS.aloadN X3.here hx rfl (hb hby d5_18) rfl rfl ?_
  show Steps p.tables e below (T3.setTop (mkF m 19 #[.val (.ref o0), .val (.int i1), .val (.ref b3)] [(.ref o0)])) _
  refine XS.iconst X3.here hx rfl (hb hby d5_19) ?_
  show Steps p.tables e below (T3.setTop (mkF m 20 #[.val (.ref o0), .val (.int i1), .val (.ref b3)] [(.int (0 : Int32)), (.ref o0)])) _
  refine XS.aloadN X3.here hx rfl (hb hby d5_20) rfl rfl ?_
  show Steps p.tables e below (T3.setTop (mkF m 21 #[.val (.ref o0), .val (.int i1), .val (.ref b3)] [(.ref b3), (.int (0 : Int32)), (.ref o0)])) _
  refine XS.iconst X3.here hx rfl (hb hby d5_21) ?_
  show Steps p.tables e below (T3.setTop (mkF m 22 #[.val (.ref o0), .val (.int i1), .val (.ref b3)] [(.int (0 : Int32)), (.ref b3), (.int (0 : Int32)), (.ref o0)])) _
  refine XS.aloadN X3.here hx rfl (hb hby d5_22) rfl rfl ?_
  show Steps p.tables e below (T3.setTop (mkF m 23 #[.val (.ref o0), .val (.int i1), .val (.ref b3)] [(.ref o0), (.int (0 : Int32)), (.ref b3), (.int (0 : Int32)), (.ref o0)])) _
  refine X3.arraylength hx (by rw [e3]; exact (Ar_o0.ext E3).1) (State.isArrayOf_alike hZ.alike Ar_o0.2.1) (g := (mkF m 23 #[.val (.ref o0), .val (.int i1), .val (.ref b3)] [(.ref o0), (.int (0 : Int32)), (.ref b3), (.int (0 : Int32)), (.ref o0)])) rfl rfl (hb hby d5_23) _ ?_
  rw [len_of S_o0 N_o0]
  show Steps p.tables e below (T3.setTop (mkF m 24 #[.val (.ref o0), .val (.int i1), .val (.ref b3)] [(.int z_o0), (.int (0 : Int32)), (.ref b3), (.int (0 : Int32)), (.ref o0)])) _
  refine XS.iloadN X3.here hx rfl (hb hby d5_24) rfl ?_
  show Steps p.tables e below (T3.setTop (mkF m 25 #[.val (.ref o0), .val (.int i1), .val (.ref b3)] [(.int i1), (.int z_o0), (.int (0 : Int32)), (.ref b3), (.int (0 : Int32)), (.ref o0)])) _
  refine st4 _ ?_
  exact kt


set_option maxRecDepth 65536 in
set_option maxHeartbeats 40000000 in
theorem rm5b (l : Launch) (Z : State) (a0 : Array Value) (hw : ∀ d ∈ tables_1, d.before a0 Z = true) (ws : List Jvm.Cond) (a1 : Addr) (N0L N1 : Nat) (hlt : N0L < N1) (hcap : N1 ≤ 16) (f : Nat → Value) (h0 : Heap) (n0 : Nat) (Z0 : n0 ≤ h0.size) (V : own_AF Z h0 a1 .int N0L f) :
    MetFree l (⟨"java/util/Arrays", "copyOf", "([II)[I"⟩ : MethodName) (head1 (Jvm.Cond.code (⟨"java/util/Arrays", "copyOf", "([II)[I"⟩ : MethodName) jdk_65_method_123_code 3 (some (.array .int)) :: ws) ({ frames := 1, cells := 1, slots := 16, locals := 18 } : Room)) (fun a U => a = #[(.ref a1), (.int (Int32.ofNat N1))] ∧ Z.Warmed39 U.vm ∧ U.heap = h0) (fun _ _ _ _ _ => True) (fun _ U o U' => ∃ v L, o = .returned v ∧ Q5 Z N0L N1 f h0 n0 v U'.heap L ∧ FrameEnd U o U' L ({ frames := 1, cells := 1, slots := 16, locals := 18 } : Room).cells ({ frames := 1, cells := 1, slots := 16, locals := 18 } : Room).slots) := by
  refine MetFree.of_bodySF (plainFor_of_name pn_5) hisR ?_
  intro p e s m args below meth c s₁ Bd hml0 hP hK
  obtain ⟨rfl, hZ, hh⟩ := hP
  have hx := Bd.exec
  have hby := Bd.bytes
  have hml : c.maxLocals = 3 := hml0
  have hown : s.vm.findClass "java/util/Arrays" = some m.cls := findClass_of_methodNamed Bd.named
  have X0 : Stand p l e ({ frames := 1, cells := 1, slots := 16, locals := 18 } : Room) s m #[(.ref a1), (.int (Int32.ofNat N1))] below meth c s₁ [] 0 0 := Stand.of_body Bd
  have e0 : s₁.heap = h0 := by rw [← hh, Bd.state]; rfl
  have N0 := Fr.nil n0
  have pre0 : ∀ t, Steps p.tables e below (s₁.setTop (mkF m 0 #[.val (.ref a1), .val (.int (Int32.ofNat N1)), .unset] [])) t → Steps p.tables e below (s₁.setTop (entryFrame m #[(.ref a1), (.int (Int32.ofNat N1))] 3)) t := fun t k => castTop (ef_5 m a1 (Int32.ofNat N1)) k
  obtain ⟨hq, cl, Ar, S, H, Gf⟩ := id V
  obtain ⟨b, T1, h1, l1, X1, e1, N1', Z1, ⟨VB, gb, sb, K1⟩, st1⟩ := own_c5b a1 (Int32.ofNat N1) cl (Int32.ofNat N0L) X0 hx hZ hw hby hml hown e0 N0 Z0 Ar (by rw [own_nc hq]; exact S) (own_nneg hq) One.u (fun z => by have := congrArg Int32.toInt z; rw [own_ti (by omega), own_ti hq] at this; omega) (own_nneg (by omega)) (by rw [own_nc (by omega)]; exact hcap)
  rw [own_min N0L N1 hlt (by omega)] at st1
  rw [own_nc (by omega)] at VB
  obtain ⟨ka, VA⟩ := (V.keep K1 nin0).arv (.int 0)
  obtain ⟨kb, VC⟩ := VB.arv (.int 0)
  obtain ⟨T2, h2, l2, X2, e2, N2, K2, V2, st2⟩ := cpA X1 hx hZ hown (hw _ (List.mem_of_getElem? (i := 34) rfl)) (hw _ (List.mem_of_getElem? (i := 37) rfl)) (hw _ (List.mem_of_getElem? (i := 35) rfl)) (hw _ (List.mem_of_getElem? (i := 36) rfl)) e1 VA VC (Or.inl ⟨rfl, rfl⟩) (sp := 0) (dp := 0) (nn := Int32.ofNat N0L) (by decide) (by decide) (own_nneg hq) (by rw [own_nc hq]; exact Nat.le_of_eq (Nat.zero_add _)) (by rw [own_nc hq, own_nc (by omega)]; show 0 + _ ≤ _; omega) rfl (by rw [own_nc hq]; simp; omega) N1' gb (g := (mkF m 28 #[.val (.ref a1), .val (.int (Int32.ofNat N1)), .val (.ref b)] [(.int (Int32.ofNat N0L)), (.int (0 : Int32)), (.ref b), (.int (0 : Int32)), (.ref a1)])) rfl (by rw [hml]; rfl) rfl (hb hby d5_28) (by decide) (W := 0) (by show 2 * 0 + _ ≤ _; exact Nat.le_of_eq rfl) (by decide)
  rw [own_nc hq] at V2
  have V3 : own_AF Z h2 b .int N1 (fun j => if j < N0L then f j else (.int 0)) := own_AF.of V2 N1 (own_nc (by omega)) _ (fun j hj => own_cpl f (.int 0) N0L N1 j)
  obtain ⟨fs, hr, hrun, hended, hW, hsame⟩ := X2.leave (v := some (.ref b)) (fun h => by rw [Bd.returns] at h; cases h)
  refine ⟨_, _, pre0 _ ?_, hrun, hended, _, _, rfl, ?_, ⟨_, rfl⟩, hW, hsame.mono (by decide) (by decide)⟩
  · refine st1 _ (st2 _ ?_)
    show Steps p.tables e below (T2.setTop (mkF m 31 #[.val (.ref a1), .val (.int (Int32.ofNat N1)), .val (.ref b)] [])) _
    refine XS.aloadN X2.here hx rfl (hb hby d5_31) rfl rfl ?_
    show Steps p.tables e below (T2.setTop (mkF m 32 #[.val (.ref a1), .val (.int (Int32.ofNat N1)), .val (.ref b)] [(.ref b)])) _
    jvm_step X2.here [X2.here.top, hx, (hb hby d5_32), X2.method', Bd.returns, Value.isRef, FieldType.isReference]
    first | (intro acts; rw [hr _ acts rfl rfl rfl]) | rw [hr _ _ rfl rfl rfl]
    exact Steps.refl _
  · show Q5 Z N0L N1 f h0 n0 _ T2.heap _
    rw [e2]
    exact ⟨b, rfl, N2, K1.trans K2 (allS (Or.inr sb) all0), sb, V3⟩
theorem d8_0 : decode jdk_65_method_30_code 0 = .ok (.iload_n 1, 1) := by decide +kernel
theorem d8_1 : decode jdk_65_method_30_code 1 = .ok (.iload_n 2, 1) := by decide +kernel
theorem d8_2 : decode jdk_65_method_30_code 2 = .ok (.if_icmp .le 44, 3) := by decide +kernel
theorem d8_46 : decode jdk_65_method_30_code 46 = .ok (.iload_n 1, 1) := by decide +kernel
theorem d8_47 : decode jdk_65_method_30_code 47 = .ok (.ifCond .ge 12, 3) := by decide +kernel
theorem d8_59 : decode jdk_65_method_30_code 59 = .ok (.iload_n 2, 1) := by decide +kernel
theorem d8_60 : decode jdk_65_method_30_code 60 = .ok (.iload_n 0, 1) := by decide +kernel
theorem d8_61 : decode jdk_65_method_30_code 61 = .ok (.if_icmp .le 12, 3) := by decide +kernel
theorem d8_73 : decode jdk_65_method_30_code 73 = .ok (.return_, 1) := by decide +kernel
theorem pn_8 : plainName "java/util/Arrays" = true := by first | (simp [plainName, overriddenIn]; done) | decide +kernel
theorem ef_8 (m : MethodId) (x0 : Int32) (x1 : Int32) (x2 : Int32) : entryFrame m #[(.int x0), (.int x1), (.int x2)] 3 = mkF m 0 #[.val (.int x0), .val (.int x1), .val (.int x2)] [] := by first | (simp [entryFrame, mkF, argsToLocals, Value.category]; done) | rfl
def Q8 (Z : State) (p1 : Int32) (p2 : Int32) (p3 : Int32) (h0 : Heap) (n0 : Nat) (v : Option Value) (h : Heap) (L : List Loc) : Prop := v = none ∧ Fr n0 L ∧ h = h0
set_option maxRecDepth 65536 in
set_option maxHeartbeats 40000000 in
theorem rm8 (l : Launch) (Z : State) (a0 : Array Value) (hw : ∀ d ∈ tables_1, d.before a0 Z = true) (ws : List Jvm.Cond) (p1 : Int32) (p2 : Int32) (p3 : Int32) (h0 : Heap) (n0 : Nat) (Z0 : n0 ≤ h0.size) (hc2 : ¬ (p3 < p2)) (hc47 : ¬ (p2 < (0 : Int32))) (hc61 : ¬ (p1 < p3)) :
    MetFree l (⟨"java/util/Arrays", "rangeCheck", "(III)V"⟩ : MethodName) (head1 (Jvm.Cond.code (⟨"java/util/Arrays", "rangeCheck", "(III)V"⟩ : MethodName) jdk_65_method_30_code 3 none :: ws) ({ frames := 0, cells := 0, slots := 0, locals := 0 } : Room)) (fun a U => a = #[(.int p1), (.int p2), (.int p3)] ∧ Z.Warmed39 U.vm ∧ U.heap = h0) (fun _ _ _ _ _ => True) (fun _ U o U' => ∃ v L, o = .returned v ∧ Q8 Z p1 p2 p3 h0 n0 v U'.heap L ∧ FrameEnd U o U' L ({ frames := 0, cells := 0, slots := 0, locals := 0 } : Room).cells ({ frames := 0, cells := 0, slots := 0, locals := 0 } : Room).slots) := by
  refine MetFree.of_bodySF (plainFor_of_name pn_8) hisR ?_
  intro p e s m args below meth c s₁ Bd hml0 hP hK
  obtain ⟨rfl, hZ, hh⟩ := hP
  have hx := Bd.exec
  have hby := Bd.bytes
  have hml : c.maxLocals = 3 := hml0
  have hown : s.vm.findClass "java/util/Arrays" = some m.cls := findClass_of_methodNamed Bd.named
  have hnm := (name_of_methodNamed Bd.named Bd.method).1
  have X0 : Stand p l e ({ frames := 0, cells := 0, slots := 0, locals := 0 } : Room) s m #[(.int p1), (.int p2), (.int p3)] below meth c s₁ [] 0 0 := Stand.of_body Bd
  have e0 : s₁.heap = h0 := by rw [← hh, Bd.state]; rfl
  have N0 := Fr.nil n0
  have pre0 : ∀ t, Steps p.tables e below (s₁.setTop (mkF m 0 #[.val (.int p1), .val (.int p2), .val (.int p3)] [])) t → Steps p.tables e below (s₁.setTop (entryFrame m #[(.int p1), (.int p2), (.int p3)] 3)) t := fun t k => castTop (ef_8 m p1 p2 p3) k

  obtain ⟨fs, hr, hrun, hended, hW, hsame⟩ := X0.leave (v := none) (fun _ => rfl)
  refine ⟨_, _, pre0 _ ?_, hrun, hended, _, _, rfl, ?_, ⟨_, rfl⟩, hW, hsame.mono (by decide) (by decide)⟩
  · show Steps p.tables e below (s₁.setTop (mkF m 0 #[.val (.int p1), .val (.int p2), .val (.int p3)] [])) _
    refine XS.iloadN X0.here hx rfl (hb hby d8_0) rfl ?_
    show Steps p.tables e below (s₁.setTop (mkF m 1 #[.val (.int p1), .val (.int p2), .val (.int p3)] [(.int p2)])) _
    refine XS.iloadN X0.here hx rfl (hb hby d8_1) rfl ?_
    show Steps p.tables e below (s₁.setTop (mkF m 2 #[.val (.int p1), .val (.int p2), .val (.int p3)] [(.int p3), (.int p2)])) _
    refine XS.icmpYes X0.here hx rfl (pc0 := 2) (pc' := 46) rfl (hb hby d8_2) rfl (flt hc2).2.2.2 (by decide) (by decide) ?_
    show Steps p.tables e below (s₁.setTop (mkF m 46 #[.val (.int p1), .val (.int p2), .val (.int p3)] [])) _
    refine XS.iloadN X0.here hx rfl (hb hby d8_46) rfl ?_
    show Steps p.tables e below (s₁.setTop (mkF m 47 #[.val (.int p1), .val (.int p2), .val (.int p3)] [(.int p2)])) _
    refine XS.ifYes X0.here hx rfl (pc0 := 47) (pc' := 59) rfl (hb hby d8_47) rfl ((if0 _ _).trans (flt hc47).2.1) (by decide) (by decide) ?_
    show Steps p.tables e below (s₁.setTop (mkF m 59 #[.val (.int p1), .val (.int p2), .val (.int p3)] [])) _
    refine XS.iloadN X0.here hx rfl (hb hby d8_59) rfl ?_
    show Steps p.tables e below (s₁.setTop (mkF m 60 #[.val (.int p1), .val (.int p2), .val (.int p3)] [(.int p3)])) _
    refine XS.iloadN X0.here hx rfl (hb hby d8_60) rfl ?_
    show Steps p.tables e below (s₁.setTop (mkF m 61 #[.val (.int p1), .val (.int p2), .val (.int p3)] [(.int p1), (.int p3)])) _
    refine XS.icmpYes X0.here hx rfl (pc0 := 61) (pc' := 73) rfl (hb hby d8_61) rfl (flt hc61).2.2.2 (by decide) (by decide) ?_
    show Steps p.tables e below (s₁.setTop (mkF m 73 #[.val (.int p1), .val (.int p2), .val (.int p3)] [])) _
    exact X0.returnOut hx Bd.returns (hb hby d8_73) hr
  · show Q8 Z p1 p2 p3 h0 n0 _ s₁.heap _
    rw [e0]
    exact ⟨rfl, N0, rfl⟩

def own_W (Z : State) (n0 : Nat) (h : Heap) (a fA lA wA xA : Addr) (P Q M N n : Nat) (F G V X : Nat → Int32) : Prop := Exa Z h a "com/example/redress/redress/definition/Waiters" ∧ n0 ≤ a ∧ (Fld Z h a "com/example/redress/redress/definition/Waiters" "firsts" "[I" (.ref fA) ∧ Fld Z h a "com/example/redress/redress/definition/Waiters" "lasts" "[I" (.ref lA) ∧ Fld Z h a "com/example/redress/redress/definition/Waiters" "waiters" "[I" (.ref wA) ∧ Fld Z h a "com/example/redress/redress/definition/Waiters" "nexts" "[I" (.ref xA)) ∧ Fld Z h a "com/example/redress/redress/definition/Waiters" "entries" "I" (.int (Int32.ofNat n)) ∧ (own_AF Z h fA .int P (fun j => .int (F j)) ∧ own_AF Z h lA .int Q (fun j => .int (G j)) ∧ own_AF Z h wA .int M (fun j => .int (V j)) ∧ own_AF Z h xA .int N (fun j => .int (X j))) ∧ (n0 ≤ fA ∧ n0 ≤ lA ∧ n0 ≤ wA ∧ n0 ≤ xA) ∧ (fA ≠ lA ∧ fA ≠ wA ∧ fA ≠ xA ∧ lA ≠ wA ∧ lA ≠ xA ∧ wA ≠ xA)
theorem own_neA {Z : State} {h : Heap} {a x : Addr} {ty : FieldType} {N : Nat} {f : Nat → Value} {a0 : Array Value} {C : String} {k : Nat} (E : Exa Z h a C) (wi : (Jvm.Cond.instantiable C k).before a0 Z = true) (V : own_AF Z h x ty N f) : a ≠ x := by
  obtain ⟨-, c, A, -⟩ := V
  exact ne_arr E wi A
theorem own_W.arr0 {Z : State} {n0 : Nat} {a fA lA wA xA : Addr} {P Q M N n : Nat} {F G V X : Nat → Int32} {h h' : Heap} {F' : Nat → Int32} {a0 : Array Value} (hw : ∀ d ∈ tables_1, d.before a0 Z = true) (S : own_W Z n0 h a fA lA wA xA P Q M N n F G V X) (K : Keep h h' [fA]) (V' : own_AF Z h' fA .int P (fun j => .int (F' j))) : own_W Z n0 h' a fA lA wA xA P Q M N n F' G V X := by
  obtain ⟨E, ga, ⟨f0, f1, f2, f3⟩, fc, ⟨v0, v1, v2, v3⟩, ⟨g0, g1, g2, g3⟩, ⟨d01, d02, d03, d12, d13, d23⟩⟩ := S
  have na : a ∉ [fA] := ninS (own_neA E (hw _ (List.mem_of_getElem? (i := 1) rfl)) v0) nin0
  exact ⟨E.keep K, ga, ⟨f0.keep K na, f1.keep K na, f2.keep K na, f3.keep K na⟩, fc.keep K na, ⟨V', v1.keep K (ninS d01.symm nin0), v2.keep K (ninS d02.symm nin0), v3.keep K (ninS d03.symm nin0)⟩, ⟨g0, g1, g2, g3⟩, ⟨d01, d02, d03, d12, d13, d23⟩⟩
theorem own_W.set0 {Z : State} {n0 : Nat} {a fA lA wA xA : Addr} {P Q M N n : Nat} {F G V X : Nat → Int32} {h h1 h2 : Heap} {b : Addr} {P' : Nat} {F' : Nat → Int32} {a0 : Array Value} (hw : ∀ d ∈ tables_1, d.before a0 Z = true) (S : own_W Z n0 h a fA lA wA xA P Q M N n F G V X) (K : Keep h h1 []) (V' : own_AF Z h1 b .int P' (fun j => .int (F' j))) (sb : h.size ≤ b) (hs : n0 ≤ h.size) (W : Wr h1 h2 a (Jvm.RoadKit.slotOf Z "com/example/redress/redress/definition/Waiters" "firsts" "[I") (.ref b)) : own_W Z n0 h2 a b lA wA xA P' Q M N n F' G V X := by
  obtain ⟨E, ga, ⟨f0, f1, f2, f3⟩, fc, ⟨v0, v1, v2, v3⟩, ⟨g0, g1, g2, g3⟩, ⟨d01, d02, d03, d12, d13, d23⟩⟩ := S
  exact ⟨(E.keep K).wr W, ga, ⟨(f0.keep K nin0).same W, (f1.keep K nin0).other W (Or.inr (slot_ne (Or.inl (hw _ (List.mem_of_getElem? (i := 13) rfl))) (Or.inl (hw _ (List.mem_of_getElem? (i := 11) rfl))) (by decide) (t := (.array .int)) (t' := (.array .int)) (by decide) (by decide))), (f2.keep K nin0).other W (Or.inr (slot_ne (Or.inl (hw _ (List.mem_of_getElem? (i := 15) rfl))) (Or.inl (hw _ (List.mem_of_getElem? (i := 11) rfl))) (by decide) (t := (.array .int)) (t' := (.array .int)) (by decide) (by decide))), (f3.keep K nin0).other W (Or.inr (slot_ne (Or.inl (hw _ (List.mem_of_getElem? (i := 17) rfl))) (Or.inl (hw _ (List.mem_of_getElem? (i := 11) rfl))) (by decide) (t := (.array .int)) (t' := (.array .int)) (by decide) (by decide)))⟩, (fc.keep K nin0).other W (Or.inr (slot_ne (Or.inl (hw _ (List.mem_of_getElem? (i := 45) rfl))) (Or.inl (hw _ (List.mem_of_getElem? (i := 11) rfl))) (by decide) (t := .int) (t' := (.array .int)) (by decide) (by decide))), ⟨V'.other W (Nat.ne_of_gt (Nat.lt_of_lt_of_le E.lt sb)), (v1.keep K nin0).other W (own_neA E (hw _ (List.mem_of_getElem? (i := 1) rfl)) v1).symm, (v2.keep K nin0).other W (own_neA E (hw _ (List.mem_of_getElem? (i := 1) rfl)) v2).symm, (v3.keep K nin0).other W (own_neA E (hw _ (List.mem_of_getElem? (i := 1) rfl)) v3).symm⟩, ⟨Nat.le_trans hs sb, g1, g2, g3⟩, ⟨(Nat.ne_of_gt (Nat.lt_of_lt_of_le v1.lt sb)), (Nat.ne_of_gt (Nat.lt_of_lt_of_le v2.lt sb)), (Nat.ne_of_gt (Nat.lt_of_lt_of_le v3.lt sb)), d12, d13, d23⟩⟩
theorem own_W.arr1 {Z : State} {n0 : Nat} {a fA lA wA xA : Addr} {P Q M N n : Nat} {F G V X : Nat → Int32} {h h' : Heap} {F' : Nat → Int32} {a0 : Array Value} (hw : ∀ d ∈ tables_1, d.before a0 Z = true) (S : own_W Z n0 h a fA lA wA xA P Q M N n F G V X) (K : Keep h h' [lA]) (V' : own_AF Z h' lA .int Q (fun j => .int (F' j))) : own_W Z n0 h' a fA lA wA xA P Q M N n F F' V X := by
  obtain ⟨E, ga, ⟨f0, f1, f2, f3⟩, fc, ⟨v0, v1, v2, v3⟩, ⟨g0, g1, g2, g3⟩, ⟨d01, d02, d03, d12, d13, d23⟩⟩ := S
  have na : a ∉ [lA] := ninS (own_neA E (hw _ (List.mem_of_getElem? (i := 1) rfl)) v1) nin0
  exact ⟨E.keep K, ga, ⟨f0.keep K na, f1.keep K na, f2.keep K na, f3.keep K na⟩, fc.keep K na, ⟨v0.keep K (ninS d01 nin0), V', v2.keep K (ninS d12.symm nin0), v3.keep K (ninS d13.symm nin0)⟩, ⟨g0, g1, g2, g3⟩, ⟨d01, d02, d03, d12, d13, d23⟩⟩
theorem own_W.set1 {Z : State} {n0 : Nat} {a fA lA wA xA : Addr} {P Q M N n : Nat} {F G V X : Nat → Int32} {h h1 h2 : Heap} {b : Addr} {P' : Nat} {F' : Nat → Int32} {a0 : Array Value} (hw : ∀ d ∈ tables_1, d.before a0 Z = true) (S : own_W Z n0 h a fA lA wA xA P Q M N n F G V X) (K : Keep h h1 []) (V' : own_AF Z h1 b .int P' (fun j => .int (F' j))) (sb : h.size ≤ b) (hs : n0 ≤ h.size) (W : Wr h1 h2 a (Jvm.RoadKit.slotOf Z "com/example/redress/redress/definition/Waiters" "lasts" "[I") (.ref b)) : own_W Z n0 h2 a fA b wA xA P P' M N n F F' V X := by
  obtain ⟨E, ga, ⟨f0, f1, f2, f3⟩, fc, ⟨v0, v1, v2, v3⟩, ⟨g0, g1, g2, g3⟩, ⟨d01, d02, d03, d12, d13, d23⟩⟩ := S
  exact ⟨(E.keep K).wr W, ga, ⟨(f0.keep K nin0).other W (Or.inr (slot_ne (Or.inl (hw _ (List.mem_of_getElem? (i := 11) rfl))) (Or.inl (hw _ (List.mem_of_getElem? (i := 13) rfl))) (by decide) (t := (.array .int)) (t' := (.array .int)) (by decide) (by decide))), (f1.keep K nin0).same W, (f2.keep K nin0).other W (Or.inr (slot_ne (Or.inl (hw _ (List.mem_of_getElem? (i := 15) rfl))) (Or.inl (hw _ (List.mem_of_getElem? (i := 13) rfl))) (by decide) (t := (.array .int)) (t' := (.array .int)) (by decide) (by decide))), (f3.keep K nin0).other W (Or.inr (slot_ne (Or.inl (hw _ (List.mem_of_getElem? (i := 17) rfl))) (Or.inl (hw _ (List.mem_of_getElem? (i := 13) rfl))) (by decide) (t := (.array .int)) (t' := (.array .int)) (by decide) (by decide)))⟩, (fc.keep K nin0).other W (Or.inr (slot_ne (Or.inl (hw _ (List.mem_of_getElem? (i := 45) rfl))) (Or.inl (hw _ (List.mem_of_getElem? (i := 13) rfl))) (by decide) (t := .int) (t' := (.array .int)) (by decide) (by decide))), ⟨(v0.keep K nin0).other W (own_neA E (hw _ (List.mem_of_getElem? (i := 1) rfl)) v0).symm, V'.other W (Nat.ne_of_gt (Nat.lt_of_lt_of_le E.lt sb)), (v2.keep K nin0).other W (own_neA E (hw _ (List.mem_of_getElem? (i := 1) rfl)) v2).symm, (v3.keep K nin0).other W (own_neA E (hw _ (List.mem_of_getElem? (i := 1) rfl)) v3).symm⟩, ⟨g0, Nat.le_trans hs sb, g2, g3⟩, ⟨(Nat.ne_of_lt (Nat.lt_of_lt_of_le v0.lt sb)), d02, d03, (Nat.ne_of_gt (Nat.lt_of_lt_of_le v2.lt sb)), (Nat.ne_of_gt (Nat.lt_of_lt_of_le v3.lt sb)), d23⟩⟩
theorem own_W.arr2 {Z : State} {n0 : Nat} {a fA lA wA xA : Addr} {P Q M N n : Nat} {F G V X : Nat → Int32} {h h' : Heap} {F' : Nat → Int32} {a0 : Array Value} (hw : ∀ d ∈ tables_1, d.before a0 Z = true) (S : own_W Z n0 h a fA lA wA xA P Q M N n F G V X) (K : Keep h h' [wA]) (V' : own_AF Z h' wA .int M (fun j => .int (F' j))) : own_W Z n0 h' a fA lA wA xA P Q M N n F G F' X := by
  obtain ⟨E, ga, ⟨f0, f1, f2, f3⟩, fc, ⟨v0, v1, v2, v3⟩, ⟨g0, g1, g2, g3⟩, ⟨d01, d02, d03, d12, d13, d23⟩⟩ := S
  have na : a ∉ [wA] := ninS (own_neA E (hw _ (List.mem_of_getElem? (i := 1) rfl)) v2) nin0
  exact ⟨E.keep K, ga, ⟨f0.keep K na, f1.keep K na, f2.keep K na, f3.keep K na⟩, fc.keep K na, ⟨v0.keep K (ninS d02 nin0), v1.keep K (ninS d12 nin0), V', v3.keep K (ninS d23.symm nin0)⟩, ⟨g0, g1, g2, g3⟩, ⟨d01, d02, d03, d12, d13, d23⟩⟩
theorem own_W.set2 {Z : State} {n0 : Nat} {a fA lA wA xA : Addr} {P Q M N n : Nat} {F G V X : Nat → Int32} {h h1 h2 : Heap} {b : Addr} {P' : Nat} {F' : Nat → Int32} {a0 : Array Value} (hw : ∀ d ∈ tables_1, d.before a0 Z = true) (S : own_W Z n0 h a fA lA wA xA P Q M N n F G V X) (K : Keep h h1 []) (V' : own_AF Z h1 b .int P' (fun j => .int (F' j))) (sb : h.size ≤ b) (hs : n0 ≤ h.size) (W : Wr h1 h2 a (Jvm.RoadKit.slotOf Z "com/example/redress/redress/definition/Waiters" "waiters" "[I") (.ref b)) : own_W Z n0 h2 a fA lA b xA P Q P' N n F G F' X := by
  obtain ⟨E, ga, ⟨f0, f1, f2, f3⟩, fc, ⟨v0, v1, v2, v3⟩, ⟨g0, g1, g2, g3⟩, ⟨d01, d02, d03, d12, d13, d23⟩⟩ := S
  exact ⟨(E.keep K).wr W, ga, ⟨(f0.keep K nin0).other W (Or.inr (slot_ne (Or.inl (hw _ (List.mem_of_getElem? (i := 11) rfl))) (Or.inl (hw _ (List.mem_of_getElem? (i := 15) rfl))) (by decide) (t := (.array .int)) (t' := (.array .int)) (by decide) (by decide))), (f1.keep K nin0).other W (Or.inr (slot_ne (Or.inl (hw _ (List.mem_of_getElem? (i := 13) rfl))) (Or.inl (hw _ (List.mem_of_getElem? (i := 15) rfl))) (by decide) (t := (.array .int)) (t' := (.array .int)) (by decide) (by decide))), (f2.keep K nin0).same W, (f3.keep K nin0).other W (Or.inr (slot_ne (Or.inl (hw _ (List.mem_of_getElem? (i := 17) rfl))) (Or.inl (hw _ (List.mem_of_getElem? (i := 15) rfl))) (by decide) (t := (.array .int)) (t' := (.array .int)) (by decide) (by decide)))⟩, (fc.keep K nin0).other W (Or.inr (slot_ne (Or.inl (hw _ (List.mem_of_getElem? (i := 45) rfl))) (Or.inl (hw _ (List.mem_of_getElem? (i := 15) rfl))) (by decide) (t := .int) (t' := (.array .int)) (by decide) (by decide))), ⟨(v0.keep K nin0).other W (own_neA E (hw _ (List.mem_of_getElem? (i := 1) rfl)) v0).symm, (v1.keep K nin0).other W (own_neA E (hw _ (List.mem_of_getElem? (i := 1) rfl)) v1).symm, V'.other W (Nat.ne_of_gt (Nat.lt_of_lt_of_le E.lt sb)), (v3.keep K nin0).other W (own_neA E (hw _ (List.mem_of_getElem? (i := 1) rfl)) v3).symm⟩, ⟨g0, g1, Nat.le_trans hs sb, g3⟩, ⟨d01, (Nat.ne_of_lt (Nat.lt_of_lt_of_le v0.lt sb)), d03, (Nat.ne_of_lt (Nat.lt_of_lt_of_le v1.lt sb)), d13, (Nat.ne_of_gt (Nat.lt_of_lt_of_le v3.lt sb))⟩⟩
theorem own_W.arr3 {Z : State} {n0 : Nat} {a fA lA wA xA : Addr} {P Q M N n : Nat} {F G V X : Nat → Int32} {h h' : Heap} {F' : Nat → Int32} {a0 : Array Value} (hw : ∀ d ∈ tables_1, d.before a0 Z = true) (S : own_W Z n0 h a fA lA wA xA P Q M N n F G V X) (K : Keep h h' [xA]) (V' : own_AF Z h' xA .int N (fun j => .int (F' j))) : own_W Z n0 h' a fA lA wA xA P Q M N n F G V F' := by
  obtain ⟨E, ga, ⟨f0, f1, f2, f3⟩, fc, ⟨v0, v1, v2, v3⟩, ⟨g0, g1, g2, g3⟩, ⟨d01, d02, d03, d12, d13, d23⟩⟩ := S
  have na : a ∉ [xA] := ninS (own_neA E (hw _ (List.mem_of_getElem? (i := 1) rfl)) v3) nin0
  exact ⟨E.keep K, ga, ⟨f0.keep K na, f1.keep K na, f2.keep K na, f3.keep K na⟩, fc.keep K na, ⟨v0.keep K (ninS d03 nin0), v1.keep K (ninS d13 nin0), v2.keep K (ninS d23 nin0), V'⟩, ⟨g0, g1, g2, g3⟩, ⟨d01, d02, d03, d12, d13, d23⟩⟩
theorem own_W.set3 {Z : State} {n0 : Nat} {a fA lA wA xA : Addr} {P Q M N n : Nat} {F G V X : Nat → Int32} {h h1 h2 : Heap} {b : Addr} {P' : Nat} {F' : Nat → Int32} {a0 : Array Value} (hw : ∀ d ∈ tables_1, d.before a0 Z = true) (S : own_W Z n0 h a fA lA wA xA P Q M N n F G V X) (K : Keep h h1 []) (V' : own_AF Z h1 b .int P' (fun j => .int (F' j))) (sb : h.size ≤ b) (hs : n0 ≤ h.size) (W : Wr h1 h2 a (Jvm.RoadKit.slotOf Z "com/example/redress/redress/definition/Waiters" "nexts" "[I") (.ref b)) : own_W Z n0 h2 a fA lA wA b P Q M P' n F G V F' := by
  obtain ⟨E, ga, ⟨f0, f1, f2, f3⟩, fc, ⟨v0, v1, v2, v3⟩, ⟨g0, g1, g2, g3⟩, ⟨d01, d02, d03, d12, d13, d23⟩⟩ := S
  exact ⟨(E.keep K).wr W, ga, ⟨(f0.keep K nin0).other W (Or.inr (slot_ne (Or.inl (hw _ (List.mem_of_getElem? (i := 11) rfl))) (Or.inl (hw _ (List.mem_of_getElem? (i := 17) rfl))) (by decide) (t := (.array .int)) (t' := (.array .int)) (by decide) (by decide))), (f1.keep K nin0).other W (Or.inr (slot_ne (Or.inl (hw _ (List.mem_of_getElem? (i := 13) rfl))) (Or.inl (hw _ (List.mem_of_getElem? (i := 17) rfl))) (by decide) (t := (.array .int)) (t' := (.array .int)) (by decide) (by decide))), (f2.keep K nin0).other W (Or.inr (slot_ne (Or.inl (hw _ (List.mem_of_getElem? (i := 15) rfl))) (Or.inl (hw _ (List.mem_of_getElem? (i := 17) rfl))) (by decide) (t := (.array .int)) (t' := (.array .int)) (by decide) (by decide))), (f3.keep K nin0).same W⟩, (fc.keep K nin0).other W (Or.inr (slot_ne (Or.inl (hw _ (List.mem_of_getElem? (i := 45) rfl))) (Or.inl (hw _ (List.mem_of_getElem? (i := 17) rfl))) (by decide) (t := .int) (t' := (.array .int)) (by decide) (by decide))), ⟨(v0.keep K nin0).other W (own_neA E (hw _ (List.mem_of_getElem? (i := 1) rfl)) v0).symm, (v1.keep K nin0).other W (own_neA E (hw _ (List.mem_of_getElem? (i := 1) rfl)) v1).symm, (v2.keep K nin0).other W (own_neA E (hw _ (List.mem_of_getElem? (i := 1) rfl)) v2).symm, V'.other W (Nat.ne_of_gt (Nat.lt_of_lt_of_le E.lt sb))⟩, ⟨g0, g1, g2, Nat.le_trans hs sb⟩, ⟨d01, d02, (Nat.ne_of_lt (Nat.lt_of_lt_of_le v0.lt sb)), d12, (Nat.ne_of_lt (Nat.lt_of_lt_of_le v1.lt sb)), (Nat.ne_of_lt (Nat.lt_of_lt_of_le v2.lt sb))⟩⟩
theorem own_W.cnt {Z : State} {n0 : Nat} {a fA lA wA xA : Addr} {P Q M N n : Nat} {F G V X : Nat → Int32} {h h2 : Heap} {a0 : Array Value} (hw : ∀ d ∈ tables_1, d.before a0 Z = true) (S : own_W Z n0 h a fA lA wA xA P Q M N n F G V X) (W : Wr h h2 a (Jvm.RoadKit.slotOf Z "com/example/redress/redress/definition/Waiters" "entries" "I") (.int (Int32.ofNat n + (1 : Int32)))) : own_W Z n0 h2 a fA lA wA xA P Q M N (n + 1) F G V X := by
  obtain ⟨E, ga, ⟨f0, f1, f2, f3⟩, fc, ⟨v0, v1, v2, v3⟩, ⟨g0, g1, g2, g3⟩, ⟨d01, d02, d03, d12, d13, d23⟩⟩ := S
  rw [own_add1] at W
  exact ⟨E.wr W, ga, ⟨f0.other W (Or.inr (slot_ne (Or.inl (hw _ (List.mem_of_getElem? (i := 11) rfl))) (Or.inl (hw _ (List.mem_of_getElem? (i := 45) rfl))) (by decide) (t := (.array .int)) (t' := .int) (by decide) (by decide))), f1.other W (Or.inr (slot_ne (Or.inl (hw _ (List.mem_of_getElem? (i := 13) rfl))) (Or.inl (hw _ (List.mem_of_getElem? (i := 45) rfl))) (by decide) (t := (.array .int)) (t' := .int) (by decide) (by decide))), f2.other W (Or.inr (slot_ne (Or.inl (hw _ (List.mem_of_getElem? (i := 15) rfl))) (Or.inl (hw _ (List.mem_of_getElem? (i := 45) rfl))) (by decide) (t := (.array .int)) (t' := .int) (by decide) (by decide))), f3.other W (Or.inr (slot_ne (Or.inl (hw _ (List.mem_of_getElem? (i := 17) rfl))) (Or.inl (hw _ (List.mem_of_getElem? (i := 45) rfl))) (by decide) (t := (.array .int)) (t' := .int) (by decide) (by decide)))⟩, fc.same W, ⟨v0.other W (own_neA E (hw _ (List.mem_of_getElem? (i := 1) rfl)) v0).symm, v1.other W (own_neA E (hw _ (List.mem_of_getElem? (i := 1) rfl)) v1).symm, v2.other W (own_neA E (hw _ (List.mem_of_getElem? (i := 1) rfl)) v2).symm, v3.other W (own_neA E (hw _ (List.mem_of_getElem? (i := 1) rfl)) v3).symm⟩, ⟨g0, g1, g2, g3⟩, ⟨d01, d02, d03, d12, d13, d23⟩⟩
theorem own_mx (P p : Nat) (hP : P < 1000) (hp : p < 1000) : own_f4 ((2 : Int32) * Int32.ofNat P) (Int32.ofNat p + (1 : Int32)) = Int32.ofNat (max (2 * P) (p + 1)) := by
  rw [own_add1, show (2 : Int32) * Int32.ofNat P = Int32.ofNat (2 * P) from (Int32.ofNat_mul 2 P).symm]
  unfold own_f4
  have q := own_ltn (i := 2 * P) (n := p + 1) (by omega) (by omega)
  by_cases h : 2 * P < p + 1
  · rw [Nat.max_eq_right (by omega)]; simp only [q, h, if_true, if_false, not_true, not_false_iff]
  · rw [Nat.max_eq_left (by omega)]; simp only [q, h, if_true, if_false, not_true, not_false_iff]
theorem own_mx2 : own_f4 (16 : Int32) ((2 : Int32) * Int32.ofNat 0) = Int32.ofNat 16 := by decide
theorem own_AF.ifI {Z : State} {h : Heap} {b : Addr} {N K : Nat} {f : Nat → Int32} (V : own_AF Z h b .int N (fun j => if j < K then .int (f j) else .int 0)) : own_AF Z h b .int N (fun j => .int (if j < K then f j else 0)) := V.congr fun j _ => by split <;> rfl
theorem own_AF.setI {Z : State} {h h' : Heap} {b : Addr} {N j : Nat} {f : Nat → Int32} {v : Int32} (V : own_AF Z h b .int N (fun i => .int (f i))) (W : Wr h h' b j (.int v)) (hj : j < N) : own_AF Z h' b .int N (fun i => .int (own_upd f j v i)) := (V.set W hj rfl).congr fun i _ => by unfold own_upd; split <;> rfl
theorem d1_0 : decode prog_60_method_1_code 0 = .ok (.aload_n 0, 1) := by decide +kernel
theorem d1_1 : decode prog_60_method_1_code 1 = .ok (.invokespecial 1, 3) := by decide +kernel
theorem d1_4 : decode prog_60_method_1_code 4 = .ok (.aload_n 0, 1) := by decide +kernel
theorem d1_5 : decode prog_60_method_1_code 5 = .ok (.iconst 0, 1) := by decide +kernel
theorem d1_6 : decode prog_60_method_1_code 6 = .ok (.newarray .int, 2) := by decide +kernel
theorem d1_8 : decode prog_60_method_1_code 8 = .ok (.putfield 7, 3) := by decide +kernel
theorem d1_11 : decode prog_60_method_1_code 11 = .ok (.aload_n 0, 1) := by decide +kernel
theorem d1_12 : decode prog_60_method_1_code 12 = .ok (.iconst 0, 1) := by decide +kernel
theorem d1_13 : decode prog_60_method_1_code 13 = .ok (.newarray .int, 2) := by decide +kernel
theorem d1_15 : decode prog_60_method_1_code 15 = .ok (.putfield 13, 3) := by decide +kernel
theorem d1_18 : decode prog_60_method_1_code 18 = .ok (.aload_n 0, 1) := by decide +kernel
theorem d1_19 : decode prog_60_method_1_code 19 = .ok (.iconst 0, 1) := by decide +kernel
theorem d1_20 : decode prog_60_method_1_code 20 = .ok (.newarray .int, 2) := by decide +kernel
theorem d1_22 : decode prog_60_method_1_code 22 = .ok (.putfield 16, 3) := by decide +kernel
theorem d1_25 : decode prog_60_method_1_code 25 = .ok (.aload_n 0, 1) := by decide +kernel
theorem d1_26 : decode prog_60_method_1_code 26 = .ok (.iconst 0, 1) := by decide +kernel
theorem d1_27 : decode prog_60_method_1_code 27 = .ok (.newarray .int, 2) := by decide +kernel
theorem d1_29 : decode prog_60_method_1_code 29 = .ok (.putfield 19, 3) := by decide +kernel
theorem d1_32 : decode prog_60_method_1_code 32 = .ok (.return_, 1) := by decide +kernel
theorem pn_1 : plainName "com/example/redress/redress/definition/Waiters" = true := by first | (simp [plainName, overriddenIn]; done) | decide +kernel
theorem ef_1 (m : MethodId) (x0 : Addr) : entryFrame m #[(.ref x0)] 1 = mkF m 0 #[.val (.ref x0)] [] := by first | (simp [entryFrame, mkF, argsToLocals, Value.category]; done) | rfl
def Q1 (Z : State) (n0 : Nat) (a : Addr) (h0 : Heap) (v : Option Value) (h : Heap) (L : List Loc) : Prop := v = none ∧ Fr n0 L ∧ Keep h0 h [a] ∧ ∃ fA lA wA xA : Addr, own_W Z n0 h a fA lA wA xA 0 0 0 0 0 (fun _ => 0) (fun _ => 0) (fun _ => 0) (fun _ => 0)
set_option maxRecDepth 65536 in
set_option maxHeartbeats 40000000 in
theorem rm1 (l : Launch) (Z : State) (a0 : Array Value) (hw : ∀ d ∈ tables_1, d.before a0 Z = true) (ws : List Jvm.Cond) (a1 : Addr) (u_firsts_a1 : Value) (u_lasts_a1 : Value) (u_waiters_a1 : Value) (u_nexts_a1 : Value) (h0 : Heap) (n0 : Nat) (Z0 : n0 ≤ h0.size) (E_a1 : Exa Z h0 a1 "com/example/redress/redress/definition/Waiters") (F_firsts_a1 : Fld Z h0 a1 "com/example/redress/redress/definition/Waiters" "firsts" "[I" u_firsts_a1) (g_a1 : n0 ≤ a1) (F_lasts_a1 : Fld Z h0 a1 "com/example/redress/redress/definition/Waiters" "lasts" "[I" u_lasts_a1) (F_waiters_a1 : Fld Z h0 a1 "com/example/redress/redress/definition/Waiters" "waiters" "[I" u_waiters_a1) (F_nexts_a1 : Fld Z h0 a1 "com/example/redress/redress/definition/Waiters" "nexts" "[I" u_nexts_a1) (F_entries_a1 : Fld Z h0 a1 "com/example/redress/redress/definition/Waiters" "entries" "I" (.int 0)) :
    MetFree l (⟨"com/example/redress/redress/definition/Waiters", "<init>", "()V"⟩ : MethodName) (head1 (Jvm.Cond.code (⟨"com/example/redress/redress/definition/Waiters", "<init>", "()V"⟩ : MethodName) prog_60_method_1_code 1 none :: ws) ({ frames := 1, cells := 4, slots := 0, locals := 12 } : Room)) (fun a U => a = #[(.ref a1)] ∧ Z.Warmed39 U.vm ∧ U.heap = h0) (fun _ _ _ _ _ => True) (fun _ U o U' => ∃ v L, o = .returned v ∧ Q1 Z n0 a1 h0 v U'.heap L ∧ FrameEnd U o U' L ({ frames := 1, cells := 4, slots := 0, locals := 12 } : Room).cells ({ frames := 1, cells := 4, slots := 0, locals := 12 } : Room).slots) := by
  refine MetFree.of_bodySF (plainFor_of_name pn_1) hisR ?_
  intro p e s m args below meth c s₁ Bd hml0 hP hK
  obtain ⟨rfl, hZ, hh⟩ := hP
  have hx := Bd.exec
  have hby := Bd.bytes
  have hml : c.maxLocals = 1 := hml0
  have hown : s.vm.findClass "com/example/redress/redress/definition/Waiters" = some m.cls := findClass_of_methodNamed Bd.named
  have hnm := (name_of_methodNamed Bd.named Bd.method).1
  have X0 : Stand p l e ({ frames := 1, cells := 4, slots := 0, locals := 12 } : Room) s m #[(.ref a1)] below meth c s₁ [] 0 0 := Stand.of_body Bd
  have e0 : s₁.heap = h0 := by rw [← hh, Bd.state]; rfl
  have N0 := Fr.nil n0
  have pre0 : ∀ t, Steps p.tables e below (s₁.setTop (mkF m 0 #[.val (.ref a1)] [])) t → Steps p.tables e below (s₁.setTop (entryFrame m #[(.ref a1)] 1)) t := fun t k => castTop (ef_1 m a1) k
  obtain ⟨T2, X2, e2, st2⟩ := initO X0 hx hZ hown (hw _ (List.mem_of_getElem? (i := 6) rfl)) (hw _ (List.mem_of_getElem? (i := 7) rfl)) (hw _ (List.mem_of_getElem? (i := 8) rfl)) e0 (g := (mkF m 1 #[.val (.ref a1)] [(.ref a1)])) rfl (by rw [hml]; rfl) rfl (hb hby d1_1) (by decide) (W := 0) (by show 2 * 0 + _ ≤ _; exact Nat.le_of_eq rfl) (by decide)
  obtain ⟨T3, h3, k3, X3, e3, E3, A3, st3⟩ := newP X2 hx hZ (hw _ (List.mem_of_getElem? (i := 9) rfl)) e2 (g := (mkF m 6 #[.val (.ref a1)] [(.int (0 : Int32)), (.ref a1)])) rfl (hb hby d1_6) rfl (by decide) (cap := 0) (by decide) (by decide) (by decide) (by decide)
  obtain ⟨b3, g3⟩ : ∃ z, z = h0.size := ⟨_, rfl⟩
  rw [← g3] at A3 st3
  have V_b3 := Arv.new A3 (by decide)
  have g_b3 : n0 ≤ b3 := Nat.le_trans Z0 (Nat.le_of_eq g3.symm)
  have sz_b3 : h0.size ≤ b3 := (Nat.le_trans (Keep.refl h0 [a1]).1 (Nat.le_of_eq g3.symm))
  have K3 : Keep h0 h3 [a1] := (Keep.refl h0 [a1]).ext E3
  obtain ⟨T4, h4, X4, e4, W4, st4⟩ := putF X3 hx hZ hown (host := "") (Or.inl (hw _ (List.mem_of_getElem? (i := 10) rfl))) Via.refl e3 (F_firsts_a1.ext E3) (E_a1.ext E3) (Or.inl (hw _ (List.mem_of_getElem? (i := 11) rfl))) (hw _ (List.mem_of_getElem? (i := 1) rfl)) (ty := (.array .int)) (by decide) rfl rfl (g := (mkF m 8 #[.val (.ref a1)] [(.ref b3), (.ref a1)])) rfl rfl (hb hby d1_8)
  have Fw4 := (F_firsts_a1.ext E3).same W4
  have K4 : Keep h0 h4 [a1] := K3.wr W4 (Or.inl (List.mem_of_getElem? (i := 0) rfl))
  have N4 := Fr.snoc X4 N0 g_a1
  obtain ⟨T5, h5, k5, X5, e5, E5, A5, st5⟩ := newP X4 hx hZ (hw _ (List.mem_of_getElem? (i := 9) rfl)) e4 (g := (mkF m 13 #[.val (.ref a1)] [(.int (0 : Int32)), (.ref a1)])) rfl (hb hby d1_13) rfl (by decide) (cap := 0) (by decide) (by decide) (by decide) (by decide)
  obtain ⟨b5, g5⟩ : ∃ z, z = h4.size := ⟨_, rfl⟩
  rw [← g5] at A5 st5
  have V_b5 := Arv.new A5 (by decide)
  have g_b5 : n0 ≤ b5 := Nat.le_trans (Nat.le_trans (Nat.le_trans Z0 E3.1) (Keep.of_wr W4).1) (Nat.le_of_eq g5.symm)
  have sz_b5 : h0.size ≤ b5 := (Nat.le_trans K4.1 (Nat.le_of_eq g5.symm))
  have K5 : Keep h0 h5 [a1] := K4.ext E5
  obtain ⟨T6, h6, X6, e6, W6, st6⟩ := putF X5 hx hZ hown (host := "") (Or.inl (hw _ (List.mem_of_getElem? (i := 12) rfl))) Via.refl e5 (((F_lasts_a1.ext E3).other W4 (Or.inr (slot_ne (Or.inl (hw _ (List.mem_of_getElem? (i := 13) rfl))) (Or.inl (hw _ (List.mem_of_getElem? (i := 11) rfl))) (by decide) (t := (.array .int)) (t' := (.array .int)) (by decide) (by decide)))).ext E5) (((E_a1.ext E3).wr W4).ext E5) (Or.inl (hw _ (List.mem_of_getElem? (i := 13) rfl))) (hw _ (List.mem_of_getElem? (i := 1) rfl)) (ty := (.array .int)) (by decide) rfl rfl (g := (mkF m 15 #[.val (.ref a1)] [(.ref b5), (.ref a1)])) rfl rfl (hb hby d1_15)
  have Fw6 := (((F_lasts_a1.ext E3).other W4 (Or.inr (slot_ne (Or.inl (hw _ (List.mem_of_getElem? (i := 13) rfl))) (Or.inl (hw _ (List.mem_of_getElem? (i := 11) rfl))) (by decide) (t := (.array .int)) (t' := (.array .int)) (by decide) (by decide)))).ext E5).same W6
  have K6 : Keep h0 h6 [a1] := K5.wr W6 (Or.inl (List.mem_of_getElem? (i := 0) rfl))
  have N6 := Fr.snoc X6 N4 g_a1
  obtain ⟨T7, h7, k7, X7, e7, E7, A7, st7⟩ := newP X6 hx hZ (hw _ (List.mem_of_getElem? (i := 9) rfl)) e6 (g := (mkF m 20 #[.val (.ref a1)] [(.int (0 : Int32)), (.ref a1)])) rfl (hb hby d1_20) rfl (by decide) (cap := 0) (by decide) (by decide) (by decide) (by decide)
  obtain ⟨b7, g7⟩ : ∃ z, z = h6.size := ⟨_, rfl⟩
  rw [← g7] at A7 st7
  have V_b7 := Arv.new A7 (by decide)
  have g_b7 : n0 ≤ b7 := Nat.le_trans (Nat.le_trans (Nat.le_trans (Nat.le_trans (Nat.le_trans Z0 E3.1) (Keep.of_wr W4).1) E5.1) (Keep.of_wr W6).1) (Nat.le_of_eq g7.symm)
  have sz_b7 : h0.size ≤ b7 := (Nat.le_trans K6.1 (Nat.le_of_eq g7.symm))
  have K7 : Keep h0 h7 [a1] := K6.ext E7
  obtain ⟨T8, h8, X8, e8, W8, st8⟩ := putF X7 hx hZ hown (host := "") (Or.inl (hw _ (List.mem_of_getElem? (i := 14) rfl))) Via.refl e7 (((((F_waiters_a1.ext E3).other W4 (Or.inr (slot_ne (Or.inl (hw _ (List.mem_of_getElem? (i := 15) rfl))) (Or.inl (hw _ (List.mem_of_getElem? (i := 11) rfl))) (by decide) (t := (.array .int)) (t' := (.array .int)) (by decide) (by decide)))).ext E5).other W6 (Or.inr (slot_ne (Or.inl (hw _ (List.mem_of_getElem? (i := 15) rfl))) (Or.inl (hw _ (List.mem_of_getElem? (i := 13) rfl))) (by decide) (t := (.array .int)) (t' := (.array .int)) (by decide) (by decide)))).ext E7) (((((E_a1.ext E3).wr W4).ext E5).wr W6).ext E7) (Or.inl (hw _ (List.mem_of_getElem? (i := 15) rfl))) (hw _ (List.mem_of_getElem? (i := 1) rfl)) (ty := (.array .int)) (by decide) rfl rfl (g := (mkF m 22 #[.val (.ref a1)] [(.ref b7), (.ref a1)])) rfl rfl (hb hby d1_22)
  have Fw8 := (((((F_waiters_a1.ext E3).other W4 (Or.inr (slot_ne (Or.inl (hw _ (List.mem_of_getElem? (i := 15) rfl))) (Or.inl (hw _ (List.mem_of_getElem? (i := 11) rfl))) (by decide) (t := (.array .int)) (t' := (.array .int)) (by decide) (by decide)))).ext E5).other W6 (Or.inr (slot_ne (Or.inl (hw _ (List.mem_of_getElem? (i := 15) rfl))) (Or.inl (hw _ (List.mem_of_getElem? (i := 13) rfl))) (by decide) (t := (.array .int)) (t' := (.array .int)) (by decide) (by decide)))).ext E7).same W8
  have K8 : Keep h0 h8 [a1] := K7.wr W8 (Or.inl (List.mem_of_getElem? (i := 0) rfl))
  have N8 := Fr.snoc X8 N6 g_a1
  obtain ⟨T9, h9, k9, X9, e9, E9, A9, st9⟩ := newP X8 hx hZ (hw _ (List.mem_of_getElem? (i := 9) rfl)) e8 (g := (mkF m 27 #[.val (.ref a1)] [(.int (0 : Int32)), (.ref a1)])) rfl (hb hby d1_27) rfl (by decide) (cap := 0) (by decide) (by decide) (by decide) (by decide)
  obtain ⟨b9, g9⟩ : ∃ z, z = h8.size := ⟨_, rfl⟩
  rw [← g9] at A9 st9
  have V_b9 := Arv.new A9 (by decide)
  have g_b9 : n0 ≤ b9 := Nat.le_trans (Nat.le_trans (Nat.le_trans (Nat.le_trans (Nat.le_trans (Nat.le_trans (Nat.le_trans Z0 E3.1) (Keep.of_wr W4).1) E5.1) (Keep.of_wr W6).1) E7.1) (Keep.of_wr W8).1) (Nat.le_of_eq g9.symm)
  have sz_b9 : h0.size ≤ b9 := (Nat.le_trans K8.1 (Nat.le_of_eq g9.symm))
  have K9 : Keep h0 h9 [a1] := K8.ext E9
  obtain ⟨T10, h10, X10, e10, W10, st10⟩ := putF X9 hx hZ hown (host := "") (Or.inl (hw _ (List.mem_of_getElem? (i := 16) rfl))) Via.refl e9 (((((((F_nexts_a1.ext E3).other W4 (Or.inr (slot_ne (Or.inl (hw _ (List.mem_of_getElem? (i := 17) rfl))) (Or.inl (hw _ (List.mem_of_getElem? (i := 11) rfl))) (by decide) (t := (.array .int)) (t' := (.array .int)) (by decide) (by decide)))).ext E5).other W6 (Or.inr (slot_ne (Or.inl (hw _ (List.mem_of_getElem? (i := 17) rfl))) (Or.inl (hw _ (List.mem_of_getElem? (i := 13) rfl))) (by decide) (t := (.array .int)) (t' := (.array .int)) (by decide) (by decide)))).ext E7).other W8 (Or.inr (slot_ne (Or.inl (hw _ (List.mem_of_getElem? (i := 17) rfl))) (Or.inl (hw _ (List.mem_of_getElem? (i := 15) rfl))) (by decide) (t := (.array .int)) (t' := (.array .int)) (by decide) (by decide)))).ext E9) (((((((E_a1.ext E3).wr W4).ext E5).wr W6).ext E7).wr W8).ext E9) (Or.inl (hw _ (List.mem_of_getElem? (i := 17) rfl))) (hw _ (List.mem_of_getElem? (i := 1) rfl)) (ty := (.array .int)) (by decide) rfl rfl (g := (mkF m 29 #[.val (.ref a1)] [(.ref b9), (.ref a1)])) rfl rfl (hb hby d1_29)
  have Fw10 := (((((((F_nexts_a1.ext E3).other W4 (Or.inr (slot_ne (Or.inl (hw _ (List.mem_of_getElem? (i := 17) rfl))) (Or.inl (hw _ (List.mem_of_getElem? (i := 11) rfl))) (by decide) (t := (.array .int)) (t' := (.array .int)) (by decide) (by decide)))).ext E5).other W6 (Or.inr (slot_ne (Or.inl (hw _ (List.mem_of_getElem? (i := 17) rfl))) (Or.inl (hw _ (List.mem_of_getElem? (i := 13) rfl))) (by decide) (t := (.array .int)) (t' := (.array .int)) (by decide) (by decide)))).ext E7).other W8 (Or.inr (slot_ne (Or.inl (hw _ (List.mem_of_getElem? (i := 17) rfl))) (Or.inl (hw _ (List.mem_of_getElem? (i := 15) rfl))) (by decide) (t := (.array .int)) (t' := (.array .int)) (by decide) (by decide)))).ext E9).same W10
  have K10 : Keep h0 h10 [a1] := K9.wr W10 (Or.inl (List.mem_of_getElem? (i := 0) rfl))
  have N10 := Fr.snoc X10 N8 g_a1
  obtain ⟨fs, hr, hrun, hended, hW, hsame⟩ := X10.leave (v := none) (fun _ => rfl)
  refine ⟨_, _, pre0 _ ?_, hrun, hended, _, _, rfl, ?_, ⟨_, rfl⟩, hW, hsame.mono (by decide) (by decide)⟩
  · show Steps p.tables e below (s₁.setTop (mkF m 0 #[.val (.ref a1)] [])) _
    refine XS.aloadN X0.here hx rfl (hb hby d1_0) rfl rfl ?_
    show Steps p.tables e below (s₁.setTop (mkF m 1 #[.val (.ref a1)] [(.ref a1)])) _
    refine st2 _ ?_
    show Steps p.tables e below (T2.setTop (mkF m 4 #[.val (.ref a1)] [])) _
    refine XS.aloadN X2.here hx rfl (hb hby d1_4) rfl rfl ?_
    show Steps p.tables e below (T2.setTop (mkF m 5 #[.val (.ref a1)] [(.ref a1)])) _
    refine XS.iconst X2.here hx rfl (hb hby d1_5) ?_
    show Steps p.tables e below (T2.setTop (mkF m 6 #[.val (.ref a1)] [(.int (0 : Int32)), (.ref a1)])) _
    refine st3 _ ?_
    show Steps p.tables e below (T3.setTop (mkF m 8 #[.val (.ref a1)] [(.ref b3), (.ref a1)])) _
    refine st4 _ ?_
    show Steps p.tables e below (T4.setTop (mkF m 11 #[.val (.ref a1)] [])) _
    refine XS.aloadN X4.here hx rfl (hb hby d1_11) rfl rfl ?_
    show Steps p.tables e below (T4.setTop (mkF m 12 #[.val (.ref a1)] [(.ref a1)])) _
    refine XS.iconst X4.here hx rfl (hb hby d1_12) ?_
    show Steps p.tables e below (T4.setTop (mkF m 13 #[.val (.ref a1)] [(.int (0 : Int32)), (.ref a1)])) _
    refine st5 _ ?_
    show Steps p.tables e below (T5.setTop (mkF m 15 #[.val (.ref a1)] [(.ref b5), (.ref a1)])) _
    refine st6 _ ?_
    show Steps p.tables e below (T6.setTop (mkF m 18 #[.val (.ref a1)] [])) _
    refine XS.aloadN X6.here hx rfl (hb hby d1_18) rfl rfl ?_
    show Steps p.tables e below (T6.setTop (mkF m 19 #[.val (.ref a1)] [(.ref a1)])) _
    refine XS.iconst X6.here hx rfl (hb hby d1_19) ?_
    show Steps p.tables e below (T6.setTop (mkF m 20 #[.val (.ref a1)] [(.int (0 : Int32)), (.ref a1)])) _
    refine st7 _ ?_
    show Steps p.tables e below (T7.setTop (mkF m 22 #[.val (.ref a1)] [(.ref b7), (.ref a1)])) _
    refine st8 _ ?_
    show Steps p.tables e below (T8.setTop (mkF m 25 #[.val (.ref a1)] [])) _
    refine XS.aloadN X8.here hx rfl (hb hby d1_25) rfl rfl ?_
    show Steps p.tables e below (T8.setTop (mkF m 26 #[.val (.ref a1)] [(.ref a1)])) _
    refine XS.iconst X8.here hx rfl (hb hby d1_26) ?_
    show Steps p.tables e below (T8.setTop (mkF m 27 #[.val (.ref a1)] [(.int (0 : Int32)), (.ref a1)])) _
    refine st9 _ ?_
    show Steps p.tables e below (T9.setTop (mkF m 29 #[.val (.ref a1)] [(.ref b9), (.ref a1)])) _
    refine st10 _ ?_
    show Steps p.tables e below (T10.setTop (mkF m 32 #[.val (.ref a1)] [])) _
    exact X10.returnOut hx Bd.returns (hb hby d1_32) hr
  · show Q1 Z n0 a1 h0 _ T10.heap _
    rw [e10]
    have l3 : b3 < b5 := by rw [g5, W4.size]; exact V_b3.lt
    have l5 : b5 < b7 := by rw [g7, W6.size]; exact V_b5.lt
    have l7 : b7 < b9 := by rw [g9, W8.size]; exact V_b7.lt
    exact ⟨rfl, N10, K10, b3, b5, b7, b9, ((((((((E_a1.ext E3).wr W4).ext E5).wr W6).ext E7).wr W8).ext E9).wr W10), g_a1, ⟨((((((Fw4.ext E5).other W6 (Or.inr (slot_ne (Or.inl (hw _ (List.mem_of_getElem? (i := 11) rfl))) (Or.inl (hw _ (List.mem_of_getElem? (i := 13) rfl))) (by decide) (t := (.array .int)) (t' := (.array .int)) (by decide) (by decide)))).ext E7).other W8 (Or.inr (slot_ne (Or.inl (hw _ (List.mem_of_getElem? (i := 11) rfl))) (Or.inl (hw _ (List.mem_of_getElem? (i := 15) rfl))) (by decide) (t := (.array .int)) (t' := (.array .int)) (by decide) (by decide)))).ext E9).other W10 (Or.inr (slot_ne (Or.inl (hw _ (List.mem_of_getElem? (i := 11) rfl))) (Or.inl (hw _ (List.mem_of_getElem? (i := 17) rfl))) (by decide) (t := (.array .int)) (t' := (.array .int)) (by decide) (by decide)))), ((((Fw6.ext E7).other W8 (Or.inr (slot_ne (Or.inl (hw _ (List.mem_of_getElem? (i := 13) rfl))) (Or.inl (hw _ (List.mem_of_getElem? (i := 15) rfl))) (by decide) (t := (.array .int)) (t' := (.array .int)) (by decide) (by decide)))).ext E9).other W10 (Or.inr (slot_ne (Or.inl (hw _ (List.mem_of_getElem? (i := 13) rfl))) (Or.inl (hw _ (List.mem_of_getElem? (i := 17) rfl))) (by decide) (t := (.array .int)) (t' := (.array .int)) (by decide) (by decide)))), ((Fw8.ext E9).other W10 (Or.inr (slot_ne (Or.inl (hw _ (List.mem_of_getElem? (i := 15) rfl))) (Or.inl (hw _ (List.mem_of_getElem? (i := 17) rfl))) (by decide) (t := (.array .int)) (t' := (.array .int)) (by decide) (by decide)))), Fw10⟩, ((((((((F_entries_a1.ext E3).other W4 (Or.inr (slot_ne (Or.inl (hw _ (List.mem_of_getElem? (i := 45) rfl))) (Or.inl (hw _ (List.mem_of_getElem? (i := 11) rfl))) (by decide) (t := .int) (t' := (.array .int)) (by decide) (by decide)))).ext E5).other W6 (Or.inr (slot_ne (Or.inl (hw _ (List.mem_of_getElem? (i := 45) rfl))) (Or.inl (hw _ (List.mem_of_getElem? (i := 13) rfl))) (by decide) (t := .int) (t' := (.array .int)) (by decide) (by decide)))).ext E7).other W8 (Or.inr (slot_ne (Or.inl (hw _ (List.mem_of_getElem? (i := 45) rfl))) (Or.inl (hw _ (List.mem_of_getElem? (i := 15) rfl))) (by decide) (t := .int) (t' := (.array .int)) (by decide) (by decide)))).ext E9).other W10 (Or.inr (slot_ne (Or.inl (hw _ (List.mem_of_getElem? (i := 45) rfl))) (Or.inl (hw _ (List.mem_of_getElem? (i := 17) rfl))) (by decide) (t := .int) (t' := (.array .int)) (by decide) (by decide)))), ⟨(own_AF.of (((((((V_b3.other W4 (Nat.ne_of_gt (Nat.lt_of_lt_of_le E_a1.lt sz_b3))).ext E5).other W6 (Nat.ne_of_gt (Nat.lt_of_lt_of_le E_a1.lt sz_b3))).ext E7).other W8 (Nat.ne_of_gt (Nat.lt_of_lt_of_le E_a1.lt sz_b3))).ext E9).other W10 (Nat.ne_of_gt (Nat.lt_of_lt_of_le E_a1.lt sz_b3))) 0 rfl (fun _ => .int 0) (fun j hj => absurd hj (Nat.not_lt_zero j))), (own_AF.of (((((V_b5.other W6 (Nat.ne_of_gt (Nat.lt_of_lt_of_le E_a1.lt sz_b5))).ext E7).other W8 (Nat.ne_of_gt (Nat.lt_of_lt_of_le E_a1.lt sz_b5))).ext E9).other W10 (Nat.ne_of_gt (Nat.lt_of_lt_of_le E_a1.lt sz_b5))) 0 rfl (fun _ => .int 0) (fun j hj => absurd hj (Nat.not_lt_zero j))), (own_AF.of (((V_b7.other W8 (Nat.ne_of_gt (Nat.lt_of_lt_of_le E_a1.lt sz_b7))).ext E9).other W10 (Nat.ne_of_gt (Nat.lt_of_lt_of_le E_a1.lt sz_b7))) 0 rfl (fun _ => .int 0) (fun j hj => absurd hj (Nat.not_lt_zero j))), (own_AF.of (V_b9.other W10 (Nat.ne_of_gt (Nat.lt_of_lt_of_le E_a1.lt sz_b9))) 0 rfl (fun _ => .int 0) (fun j hj => absurd hj (Nat.not_lt_zero j)))⟩, ⟨g_b3, g_b5, g_b7, g_b9⟩, ⟨Nat.ne_of_lt l3, Nat.ne_of_lt (Nat.lt_trans l3 l5), Nat.ne_of_lt (Nat.lt_trans l3 (Nat.lt_trans l5 l7)), Nat.ne_of_lt l5, Nat.ne_of_lt (Nat.lt_trans l5 l7), Nat.ne_of_lt l7⟩⟩
theorem d7_0 : decode jdk_65_method_104_code 0 = .ok (.aload_n 0, 1) := by decide +kernel
theorem d7_1 : decode jdk_65_method_104_code 1 = .ok (.arraylength, 1) := by decide +kernel
theorem d7_2 : decode jdk_65_method_104_code 2 = .ok (.iload_n 1, 1) := by decide +kernel
theorem d7_3 : decode jdk_65_method_104_code 3 = .ok (.iload_n 2, 1) := by decide +kernel
theorem d7_4 : decode jdk_65_method_104_code 4 = .ok (.invokestatic 13, 3) := by decide +kernel
theorem d7_7 : decode jdk_65_method_104_code 7 = .ok (.iload_n 1, 1) := by decide +kernel
theorem d7_8 : decode jdk_65_method_104_code 8 = .ok (.istore 4, 2) := by decide +kernel
theorem pd_7_6 : parseMethodDescriptor "(III)V" = some ⟨[.int, .int, .int], none⟩ := by decide +kernel
theorem os7_8 {z0 : Value} {z1 : Value} {z2 : Value} {s3 : Slot} {s4 : Slot} {v : Int32} (h : One s4) : storeLocals #[.val z0, .val z1, .val z2, s3, s4] 4 (.int v) = some #[.val z0, .val z1, .val z2, s3, .val (.int v)] := by
  rcases h with rfl | ⟨w, rfl, hw⟩
  · rfl
  · cases w <;> first | rfl | (simp [Value.category] at hw)
set_option maxRecDepth 65536 in
set_option maxHeartbeats 40000000 in
theorem tn7_0_10 {p : Program} {l : Launch} {e : Env} {s : State} {m : MethodId} {args : Array Value} {below : List Frame} {meth : Method} {c : Code} {T0 : State} {locs : List Loc} {Z : State} {a0 : Array Value} {h0 : Heap} {n0 : Nat} (o0 : Addr) (i1 : Int32) (i2 : Int32) (s3 : Slot) (cl_o0 : Cell) (z_o0 : Int32)
    (X0 : Stand p l e ({ frames := 1, cells := 0, slots := 0, locals := 14 } : Room) s m args below meth c T0 locs 0 0) (hx : p.tables.exec = Jvm.exec) (hZ : Z.Warmed39 s.vm) (hw : ∀ d ∈ tables_1, d.before a0 Z = true) (hby : c.code = jdk_65_method_104_code) (hml : c.maxLocals = 5) (hown : s.vm.findClass "java/util/Arrays" = some m.cls) (e0 : T0.heap = h0) (N0 : Fr n0 locs) (Z0 : n0 ≤ h0.size) (Ar_o0 : Arr Z h0 o0 cl_o0 .int) (S_o0 : cl_o0.slots.size = z_o0.toNatClampNeg) (N_o0 : ¬ z_o0 < 0) (hs4 : One .unset) (q2_ : ¬ (i2 < i1)) (q47 : ¬ (i1 < (0 : Int32))) (q61 : ¬ (z_o0 < i2)) :
    ∃ (T' : State) (h' : Heap) (locs' : List Loc), Stand p l e ({ frames := 1, cells := 0, slots := 0, locals := 14 } : Room) s m args below meth c T' locs' 0 0 ∧ T'.heap = h' ∧ Fr n0 locs' ∧ n0 ≤ h'.size ∧ (h' = h0) ∧
      ∀ target, Steps p.tables e below (T'.setTop (mkF m 10 #[.val (.ref o0), .val (.int i1), .val (.int i2), s3, .val (.int i1)] [])) target → Steps p.tables e below (T0.setTop (mkF m 0 #[.val (.ref o0), .val (.int i1), .val (.int i2), s3, .unset] [])) target := by
  obtain ⟨_, _, ⟨T5, L5, k5, n5⟩, -, X5, ⟨Lc5, hQ5, l5, y5, z5⟩, st5⟩ := Jvm.LawKit.callS X0 hx (y := (⟨"java/util/Arrays", "rangeCheck", "(III)V"⟩ : MethodName)) hown (mvT hZ (hw _ (List.mem_of_getElem? (i := 41) rfl))) (mvT hZ (hw _ (List.mem_of_getElem? (i := 42) rfl))) (mvT hZ (hw _ (List.mem_of_getElem? (i := 29) rfl))) (mvT hZ (hw _ (List.mem_of_getElem? (i := 43) rfl))) (by decide) (backOf (W := 0) (rm8 l Z a0 hw [] z_o0 i1 i2 h0 n0 Z0 q2_ q47 q61) hZ (hw _ (List.mem_of_getElem? (i := 43) rfl)) (hw _ (List.mem_of_getElem? (i := 29) rfl)) (by decide) (by decide)) (g := (mkF m 4 #[.val (.ref o0), .val (.int i1), .val (.int i2), s3, .unset] [(.int i2), (.int i1), (.int z_o0)])) rfl (by rw [hml]; rfl) (argsL := [(.int z_o0), (.int i1), (.int i2)]) (rest := []) (lenOf pd_7_6 rfl) rfl (by show 2 * 0 + _ ≤ _; exact Nat.le_of_eq rfl) (hb hby d7_4) (fun _ _ => ⟨rfl, e0, (Nat.le_of_ble_eq_true rfl), (Nat.le_of_ble_eq_true rfl)⟩)
  dsimp only [Pt.U, Pt.locs, Pt.cells, Pt.slots] at X5 l5 y5 z5 st5 hQ5
  subst l5 y5 z5
  obtain ⟨rfl, N5q, q5⟩ := hQ5
  have N5 := Fr.app N0 N5q
  refine ⟨T5, _, _, X5, rfl, N5, (by rw [q5]; exact Z0), q5, fun target kt => ?_⟩
  show Steps p.tables e below (T0.setTop (mkF m 0 #[.val (.ref o0), .val (.int i1), .val (.int i2), s3, .unset] [])) _
  refine XS.aloadN X0.here hx rfl (hb hby d7_0) rfl rfl ?_
  show Steps p.tables e below (T0.setTop (mkF m 1 #[.val (.ref o0), .val (.int i1), .val (.int i2), s3, .unset] [(.ref o0)])) _
  refine X0.arraylength hx (by rw [e0]; exact Ar_o0.1) (State.isArrayOf_alike hZ.alike Ar_o0.2.1) (g := (mkF m 1 #[.val (.ref o0), .val (.int i1), .val (.int i2), s3, .unset] [(.ref o0)])) rfl rfl (hb hby d7_1) _ ?_
  rw [len_of S_o0 N_o0]
  show Steps p.tables e below (T0.setTop (mkF m 2 #[.val (.ref o0), .val (.int i1), .val (.int i2), s3, .unset] [(.int z_o0)])) _
  refine XS.iloadN X0.here hx rfl (hb hby d7_2) rfl ?_
  show Steps p.tables e below (T0.setTop (mkF m 3 #[.val (.ref o0), .val (.int i1), .val (.int i2), s3, .unset] [(.int i1), (.int z_o0)])) _
  refine XS.iloadN X0.here hx rfl (hb hby d7_3) rfl ?_
  show Steps p.tables e below (T0.setTop (mkF m 4 #[.val (.ref o0), .val (.int i1), .val (.int i2), s3, .unset] [(.int i2), (.int i1), (.int z_o0)])) _
  refine st5 _ ?_
  show Steps p.tables e below (T5.setTop (mkF m 7 #[.val (.ref o0), .val (.int i1), .val (.int i2), s3, .unset] [])) _
  refine XS.iloadN X5.here hx rfl (hb hby d7_7) rfl ?_
  show Steps p.tables e below (T5.setTop (mkF m 8 #[.val (.ref o0), .val (.int i1), .val (.int i2), s3, .unset] [(.int i1)])) _
  refine XS.istore X5.here hx rfl (hb hby d7_8) rfl (l' := #[.val (.ref o0), .val (.int i1), .val (.int i2), s3, .val (.int i1)]) (os7_8 hs4) ?_
  exact kt
theorem d7_10 : decode jdk_65_method_104_code 10 = .ok (.iload 4, 2) := by decide +kernel
theorem d7_12 : decode jdk_65_method_104_code 12 = .ok (.iload_n 2, 1) := by decide +kernel
theorem d7_13 : decode jdk_65_method_104_code 13 = .ok (.if_icmp .ge 14, 3) := by decide +kernel
theorem d7_16 : decode jdk_65_method_104_code 16 = .ok (.aload_n 0, 1) := by decide +kernel
theorem d7_17 : decode jdk_65_method_104_code 17 = .ok (.iload 4, 2) := by decide +kernel
theorem d7_19 : decode jdk_65_method_104_code 19 = .ok (.iload_n 3, 1) := by decide +kernel
theorem d7_20 : decode jdk_65_method_104_code 20 = .ok (.iastore, 1) := by decide +kernel
theorem d7_21 : decode jdk_65_method_104_code 21 = .ok (.iinc 4 1, 3) := by decide +kernel
theorem d7_24 : decode jdk_65_method_104_code 24 = .ok (.goto (-14), 3) := by decide +kernel
set_option maxRecDepth 65536 in
set_option maxHeartbeats 40000000 in
theorem tn7_10_10 {p : Program} {l : Launch} {e : Env} {R : Room} {s : State} {m : MethodId} {args : Array Value} {below : List Frame} {meth : Method} {c : Code} {T0 : State} {locs : List Loc} {cells slots : Nat} {Z : State} {a0 : Array Value} {h0 : Heap} {n0 : Nat} (o0 : Addr) (s1 : Slot) (i2 : Int32) (i3 : Int32) (i4 : Int32) (cl_o0 : Cell) (N : Nat) (f : Nat → Int32)
    (X0 : Stand p l e R s m args below meth c T0 locs cells slots) (hx : p.tables.exec = Jvm.exec) (hZ : Z.Warmed39 s.vm) (hw : ∀ d ∈ tables_1, d.before a0 Z = true) (hby : c.code = jdk_65_method_104_code) (hml : c.maxLocals = 5) (hown : s.vm.findClass "java/util/Arrays" = some m.cls) (e0 : T0.heap = h0) (N0 : Fr n0 locs) (Z0 : n0 ≤ h0.size) (Ar_o0 : Arr Z h0 o0 cl_o0 .int) (hin20 : ¬ (i4 < 0 ∨ cl_o0.slots.size ≤ (i4).toNatClampNeg)) (g_o0 : n0 ≤ o0) (hc13 : i4 < i2) (V : own_AF Z h0 o0 .int N (fun i => .int (f i))) (hj : (i4).toNatClampNeg < N) :
    ∃ (T' : State) (h' : Heap) (locs' : List Loc), Stand p l e R s m args below meth c T' locs' cells slots ∧ T'.heap = h' ∧ Fr n0 locs' ∧ n0 ≤ h'.size ∧ (Keep h0 h' [o0] ∧ own_AF Z h' o0 .int N (fun i => .int (own_upd f (i4).toNatClampNeg i3 i))) ∧
      ∀ target, Steps p.tables e below (T'.setTop (mkF m 10 #[.val (.ref o0), s1, .val (.int i2), .val (.int i3), .val (.int (i4 + (1 : Int32)))] [])) target → Steps p.tables e below (T0.setTop (mkF m 10 #[.val (.ref o0), s1, .val (.int i2), .val (.int i3), .val (.int i4)] [])) target := by
  obtain ⟨T5, h5, X5, e5, W5, st5⟩ := stI X0 hx hZ e0 Ar_o0 (j := i4) hin20 (g := (mkF m 20 #[.val (.ref o0), s1, .val (.int i2), .val (.int i3), .val (.int i4)] [(.int i3), (.int i4), (.ref o0)])) rfl rfl (hb hby d7_20)
  have N5 := Fr.snoc X5 N0 g_o0
  have K5 : Keep h0 h5 [o0] := (Keep.refl h0 [o0]).wr W5 (Or.inl (List.mem_of_getElem? (i := 0) rfl))
  refine ⟨T5, _, _, X5, e5, N5, (Nat.le_trans Z0 K5.1), ⟨K5, V.setI W5 hj⟩, fun target kt => ?_⟩
  show Steps p.tables e below (T0.setTop (mkF m 10 #[.val (.ref o0), s1, .val (.int i2), .val (.int i3), .val (.int i4)] [])) _
  refine XS.iload X0.here hx rfl (hb hby d7_10) rfl ?_
  show Steps p.tables e below (T0.setTop (mkF m 12 #[.val (.ref o0), s1, .val (.int i2), .val (.int i3), .val (.int i4)] [(.int i4)])) _
  refine XS.iloadN X0.here hx rfl (hb hby d7_12) rfl ?_
  show Steps p.tables e below (T0.setTop (mkF m 13 #[.val (.ref o0), s1, .val (.int i2), .val (.int i3), .val (.int i4)] [(.int i2), (.int i4)])) _
  refine XS.icmpNo X0.here hx rfl (hb hby d7_13) rfl (tlt hc13).2.1 ?_
  show Steps p.tables e below (T0.setTop (mkF m 16 #[.val (.ref o0), s1, .val (.int i2), .val (.int i3), .val (.int i4)] [])) _
  refine XS.aloadN X0.here hx rfl (hb hby d7_16) rfl rfl ?_
  show Steps p.tables e below (T0.setTop (mkF m 17 #[.val (.ref o0), s1, .val (.int i2), .val (.int i3), .val (.int i4)] [(.ref o0)])) _
  refine XS.iload X0.here hx rfl (hb hby d7_17) rfl ?_
  show Steps p.tables e below (T0.setTop (mkF m 19 #[.val (.ref o0), s1, .val (.int i2), .val (.int i3), .val (.int i4)] [(.int i4), (.ref o0)])) _
  refine XS.iloadN X0.here hx rfl (hb hby d7_19) rfl ?_
  show Steps p.tables e below (T0.setTop (mkF m 20 #[.val (.ref o0), s1, .val (.int i2), .val (.int i3), .val (.int i4)] [(.int i3), (.int i4), (.ref o0)])) _
  refine st5 _ ?_
  show Steps p.tables e below (T5.setTop (mkF m 21 #[.val (.ref o0), s1, .val (.int i2), .val (.int i3), .val (.int i4)] [])) _
  refine XS.iinc X5.here hx rfl (hb hby d7_21) rfl (l' := #[.val (.ref o0), s1, .val (.int i2), .val (.int i3), .val (.int (i4 + (1 : Int32)))]) rfl ?_
  show Steps p.tables e below (T5.setTop (mkF m 24 #[.val (.ref o0), s1, .val (.int i2), .val (.int i3), .val (.int (i4 + (1 : Int32)))] [])) _
  refine XS.goto X5.here hx rfl (pc0 := 24) (pc' := 10) rfl (hb hby d7_24) (by decide) (by decide) ?_
  exact kt
set_option maxRecDepth 65536 in
set_option maxHeartbeats 40000000 in
theorem tn7_10_27 {p : Program} {l : Launch} {e : Env} {R : Room} {s : State} {m : MethodId} {args : Array Value} {below : List Frame} {meth : Method} {c : Code} {T0 : State} {locs : List Loc} {cells slots : Nat} {Z : State} {a0 : Array Value} {h0 : Heap} (s0 : Slot) (s1 : Slot) (i2 : Int32) (s3 : Slot) (i4 : Int32)
    (X0 : Stand p l e R s m args below meth c T0 locs cells slots) (hx : p.tables.exec = Jvm.exec) (hZ : Z.Warmed39 s.vm) (hw : ∀ d ∈ tables_1, d.before a0 Z = true) (hby : c.code = jdk_65_method_104_code) (hml : c.maxLocals = 5) (hown : s.vm.findClass "java/util/Arrays" = some m.cls) (e0 : T0.heap = h0) (hc13 : ¬ (i4 < i2)) :
    ∃ (T' : State), Stand p l e R s m args below meth c T' locs cells slots ∧ T'.heap = h0 ∧
      ∀ target, Steps p.tables e below (T'.setTop (mkF m 27 #[s0, s1, .val (.int i2), s3, .val (.int i4)] [])) target → Steps p.tables e below (T0.setTop (mkF m 10 #[s0, s1, .val (.int i2), s3, .val (.int i4)] [])) target := by

  refine ⟨T0, X0, e0, fun target kt => ?_⟩
  show Steps p.tables e below (T0.setTop (mkF m 10 #[s0, s1, .val (.int i2), s3, .val (.int i4)] [])) _
  refine XS.iload X0.here hx rfl (hb hby d7_10) rfl ?_
  show Steps p.tables e below (T0.setTop (mkF m 12 #[s0, s1, .val (.int i2), s3, .val (.int i4)] [(.int i4)])) _
  refine XS.iloadN X0.here hx rfl (hb hby d7_12) rfl ?_
  show Steps p.tables e below (T0.setTop (mkF m 13 #[s0, s1, .val (.int i2), s3, .val (.int i4)] [(.int i2), (.int i4)])) _
  refine XS.icmpYes X0.here hx rfl (pc0 := 13) (pc' := 27) rfl (hb hby d7_13) rfl (flt hc13).2.1 (by decide) (by decide) ?_
  exact kt

def own_fl (f : Nat → Int32) (fr to : Nat) (v : Int32) : Nat → Int32 := fun j => if fr ≤ j ∧ j < to then v else f j
theorem own_fl_step (f : Nat → Int32) (i to : Nat) (v : Int32) (h : i < to) (j : Nat) : own_fl (own_upd f i v) (i + 1) to v j = own_fl f i to v j := by
  unfold own_fl own_upd
  by_cases q : j = i
  · subst q
    rw [if_neg (by omega), if_pos rfl, if_pos (by omega)]
  · rw [if_neg q]
    by_cases r : i + 1 ≤ j ∧ j < to
    · rw [if_pos r, if_pos (by omega)]
    · rw [if_neg r, if_neg (by omega)]
set_option maxRecDepth 65536 in
set_option maxHeartbeats 4000000 in
theorem own_lp7 {p : Program} {l : Launch} {e : Env} {R : Room} {s : State} {m : MethodId} {args : Array Value} {below : List Frame} {meth : Method} {c : Code} {cells slots : Nat} {Z : State} {a0 : Array Value} {n0 : Nat} (a : Addr) (fr to N : Nat) (v : Int32) (hx : p.tables.exec = Jvm.exec) (hZ : Z.Warmed39 s.vm) (hw : ∀ d ∈ tables_1, d.before a0 Z = true) (hby : c.code = jdk_65_method_104_code) (hml : c.maxLocals = 5) (hown : s.vm.findClass "java/util/Arrays" = some m.cls) (htN : to ≤ N) (hN : N < 2147483648) (ga : n0 ≤ a) :
    ∀ (k i : Nat) (T0 : State) (h0 : Heap) (locs : List Loc) (f : Nat → Int32), i + k = to → Stand p l e R s m args below meth c T0 locs cells slots → T0.heap = h0 → Fr n0 locs → n0 ≤ h0.size → own_AF Z h0 a .int N (fun j => .int (f j)) →
    ∃ (T' : State) (h' : Heap) (locs' : List Loc), Stand p l e R s m args below meth c T' locs' cells slots ∧ T'.heap = h' ∧ Fr n0 locs' ∧ n0 ≤ h'.size ∧ Keep h0 h' [a] ∧ own_AF Z h' a .int N (fun j => .int (own_fl f i to v j)) ∧
      ∀ target, Steps p.tables e below (T'.setTop (mkF m 27 #[.val (.ref a), .val (.int (Int32.ofNat fr)), .val (.int (Int32.ofNat to)), .val (.int v), .val (.int (Int32.ofNat to))] [])) target → Steps p.tables e below (T0.setTop (mkF m 10 #[.val (.ref a), .val (.int (Int32.ofNat fr)), .val (.int (Int32.ofNat to)), .val (.int v), .val (.int (Int32.ofNat i))] [])) target := by
  intro k
  induction k with
  | zero =>
    intro i T0 h0 locs f hi X0 e0 N0 Z0 V
    obtain rfl : i = to := by omega
    obtain ⟨T1, X1, e1, st1⟩ := tn7_10_27 (.val (.ref a)) (.val (.int (Int32.ofNat fr))) (Int32.ofNat i) (.val (.int v)) (Int32.ofNat i) X0 hx hZ hw hby hml hown e0 Int32.lt_irrefl
    exact ⟨T1, h0, locs, X1, e1, N0, Z0, Keep.refl _ _, V.congr fun j _ => by unfold own_fl; rw [if_neg (by omega)], st1⟩
  | succ k ih =>
    intro i T0 h0 locs f hi X0 e0 N0 Z0 V
    obtain ⟨-, cl, Ar, S, -, -⟩ := id V
    obtain ⟨T1, h1, l1, X1, e1, N1, Z1, ⟨K1, V1⟩, st1⟩ := tn7_10_10 a (.val (.int (Int32.ofNat fr))) (Int32.ofNat to) v (Int32.ofNat i) cl N f X0 hx hZ hw hby hml hown e0 N0 Z0 Ar (own_inb S (by omega) hN) ga ((own_ltn (by omega) (by omega)).mpr (by omega)) V (by rw [own_nc (by omega)]; omega)
    rw [own_add1] at st1
    rw [own_nc (by omega)] at V1
    obtain ⟨T2, h2, l2, X2, e2, N2, Z2, K2, V2, st2⟩ := ih (i + 1) T1 h1 l1 _ (by omega) X1 e1 N1 Z1 V1
    exact ⟨T2, h2, l2, X2, e2, N2, Z2, K1.trans K2 (allS (Or.inl (List.mem_singleton.mpr rfl)) all0), V2.congr fun j _ => by rw [own_fl_step f i to v (by omega) j], fun t kt => st1 t (st2 t kt)⟩
theorem d7_27 : decode jdk_65_method_104_code 27 = .ok (.return_, 1) := by decide +kernel
theorem pn_7 : plainName "java/util/Arrays" = true := by first | (simp [plainName, overriddenIn]; done) | decide +kernel
theorem ef_7 (m : MethodId) (x0 : Addr) (x1 : Int32) (x2 : Int32) (x3 : Int32) : entryFrame m #[(.ref x0), (.int x1), (.int x2), (.int x3)] 5 = mkF m 0 #[.val (.ref x0), .val (.int x1), .val (.int x2), .val (.int x3), .unset] [] := by first | (simp [entryFrame, mkF, argsToLocals, Value.category]; done) | rfl

def Q7 (Z : State) (n0 : Nat) (a : Addr) (N : Nat) (f : Nat → Int32) (fr to : Nat) (vv : Int32) (h0 : Heap) (v : Option Value) (h : Heap) (L : List Loc) : Prop := v = none ∧ Fr n0 L ∧ n0 ≤ h.size ∧ Keep h0 h [a] ∧ own_AF Z h a .int N (fun j => .int (own_fl f fr to vv j))
set_option maxRecDepth 65536 in
set_option maxHeartbeats 4000000 in
theorem rm7 (l : Launch) (Z : State) (a0 : Array Value) (hw : ∀ d ∈ tables_1, d.before a0 Z = true) (ws : List Jvm.Cond) (a1 : Addr) (fr to : Nat) (vv : Int32) (N : Nat) (f : Nat → Int32) (h0 : Heap) (n0 : Nat) (Z0 : n0 ≤ h0.size) (V : own_AF Z h0 a1 .int N (fun j => .int (f j))) (hft : fr ≤ to) (htN : to ≤ N) (ga : n0 ≤ a1) :
    MetFree l (⟨"java/util/Arrays", "fill", "([IIII)V"⟩ : MethodName) (head1 (Jvm.Cond.code (⟨"java/util/Arrays", "fill", "([IIII)V"⟩ : MethodName) jdk_65_method_104_code 5 none :: ws) ({ frames := 1, cells := 0, slots := 0, locals := 14 } : Room)) (fun a U => a = #[(.ref a1), (.int (Int32.ofNat fr)), (.int (Int32.ofNat to)), (.int vv)] ∧ Z.Warmed39 U.vm ∧ U.heap = h0) (fun _ _ _ _ _ => True) (fun _ U o U' => ∃ v L, o = .returned v ∧ Q7 Z n0 a1 N f fr to vv h0 v U'.heap L ∧ FrameEnd U o U' L ({ frames := 1, cells := 0, slots := 0, locals := 14 } : Room).cells ({ frames := 1, cells := 0, slots := 0, locals := 14 } : Room).slots) := by
  refine MetFree.of_bodySF (plainFor_of_name pn_7) hisR ?_
  intro p e s m args below meth c s₁ Bd hml0 hP hK
  obtain ⟨rfl, hZ, hh⟩ := hP
  have hx := Bd.exec
  have hby := Bd.bytes
  have hml : c.maxLocals = 5 := hml0
  have hown : s.vm.findClass "java/util/Arrays" = some m.cls := findClass_of_methodNamed Bd.named
  have X0 : Stand p l e ({ frames := 1, cells := 0, slots := 0, locals := 14 } : Room) s m #[(.ref a1), (.int (Int32.ofNat fr)), (.int (Int32.ofNat to)), (.int vv)] below meth c s₁ [] 0 0 := Stand.of_body Bd
  have e0 : s₁.heap = h0 := by rw [← hh, Bd.state]; rfl
  have N0 := Fr.nil n0
  have pre0 : ∀ t, Steps p.tables e below (s₁.setTop (mkF m 0 #[.val (.ref a1), .val (.int (Int32.ofNat fr)), .val (.int (Int32.ofNat to)), .val (.int vv), .unset] [])) t → Steps p.tables e below (s₁.setTop (entryFrame m #[(.ref a1), (.int (Int32.ofNat fr)), (.int (Int32.ofNat to)), (.int vv)] 5)) t := fun t k => castTop (ef_7 m a1 (Int32.ofNat fr) (Int32.ofNat to) vv) k
  obtain ⟨hq, cl, Ar, S, -, -⟩ := id V
  obtain ⟨T1, h1, l1, X1, e1, N1, Z1, q1, st1⟩ := tn7_0_10 a1 (Int32.ofNat fr) (Int32.ofNat to) (.val (.int vv)) cl (Int32.ofNat N) X0 hx hZ hw hby hml hown e0 N0 Z0 Ar (by rw [own_nc hq]; exact S) (own_nneg hq) One.u (by rw [own_ltn (by omega) (by omega)]; omega) (own_nneg (by omega)) (by rw [own_ltn hq (by omega)]; omega)
  subst q1
  obtain ⟨T2, h2, l2, X2, e2, N2, Z2, K2, V2, st2⟩ := own_lp7 a1 fr to N vv hx hZ hw hby hml hown htN hq ga (to - fr) fr T1 h1 l1 f (by omega) X1 e1 N1 Z1 V
  obtain ⟨fs, hr, hrun, hended, hW, hsame⟩ := X2.leave (v := none) (fun _ => rfl)
  refine ⟨_, _, pre0 _ ?_, hrun, hended, _, _, rfl, ?_, ⟨_, rfl⟩, hW, hsame.mono (by decide) (by decide)⟩
  · exact st1 _ (st2 _ (X2.returnOut hx Bd.returns (hb hby d7_27) hr))
  · show Q7 Z n0 a1 N f fr to vv h1 _ T2.heap _
    rw [e2]
    exact ⟨rfl, N2, Z2, K2, V2⟩
theorem d3_0 : decode prog_60_method_2_code 0 = .ok (.iload_n 1, 1) := by decide +kernel
theorem d3_1 : decode prog_60_method_2_code 1 = .ok (.aload_n 0, 1) := by decide +kernel
theorem d3_2 : decode prog_60_method_2_code 2 = .ok (.getfield 7, 3) := by decide +kernel
theorem d3_5 : decode prog_60_method_2_code 5 = .ok (.arraylength, 1) := by decide +kernel
theorem d3_6 : decode prog_60_method_2_code 6 = .ok (.if_icmp .lt 59, 3) := by decide +kernel
theorem d3_9 : decode prog_60_method_2_code 9 = .ok (.aload_n 0, 1) := by decide +kernel
theorem d3_10 : decode prog_60_method_2_code 10 = .ok (.getfield 7, 3) := by decide +kernel
theorem d3_13 : decode prog_60_method_2_code 13 = .ok (.arraylength, 1) := by decide +kernel
theorem d3_14 : decode prog_60_method_2_code 14 = .ok (.istore_n 3, 1) := by decide +kernel
theorem os3_14 {z0 : Value} {z1 : Value} {s2 : Slot} {s3 : Slot} {v : Int32} (h : One s3) : storeLocals #[.val z0, .val z1, s2, s3] 3 (.int v) = some #[.val z0, .val z1, s2, .val (.int v)] := by
  rcases h with rfl | ⟨w, rfl, hw⟩
  · rfl
  · cases w <;> first | rfl | (simp [Value.category] at hw)
set_option maxRecDepth 65536 in
set_option maxHeartbeats 40000000 in
theorem own_a0 {p : Program} {l : Launch} {e : Env} {R : Room} {s : State} {m : MethodId} {args : Array Value} {below : List Frame} {meth : Method} {c : Code} {T0 : State} {locs : List Loc} {cells slots : Nat} {Z : State} {a0 : Array Value} {h0 : Heap} (o0 : Addr) (i1 : Int32) (s2 : Slot) (w4 : Addr) (cl_w4 : Cell) (z_w4 : Int32)
    (X0 : Stand p l e R s m args below meth c T0 locs cells slots) (hx : p.tables.exec = Jvm.exec) (hZ : Z.Warmed39 s.vm) (hw : ∀ d ∈ tables_1, d.before a0 Z = true) (hby : c.code = prog_60_method_2_code) (hml : c.maxLocals = 4) (hown : s.vm.findClass "com/example/redress/redress/definition/Waiters" = some m.cls) (e0 : T0.heap = h0) (F_firsts_o0 : Fld Z h0 o0 "com/example/redress/redress/definition/Waiters" "firsts" "[I" (.ref w4)) (Ar_w4 : Arr Z h0 w4 cl_w4 .int) (S_w4 : cl_w4.slots.size = z_w4.toNatClampNeg) (N_w4 : ¬ z_w4 < 0) (hs3 : One .unset) (hc6 : ¬ (i1 < z_w4)) :
    ∃ (T' : State), Stand p l e R s m args below meth c T' locs cells slots ∧ T'.heap = h0 ∧
      ∀ target, Steps p.tables e below (T'.setTop (mkF m 15 #[.val (.ref o0), .val (.int i1), s2, .val (.int z_w4)] [])) target → Steps p.tables e below (T0.setTop (mkF m 0 #[.val (.ref o0), .val (.int i1), s2, .unset] [])) target := by
  obtain ⟨T5, X5, e5, st5⟩ := getF X0 hx hZ hown (host := "") (Or.inl (hw _ (List.mem_of_getElem? (i := 10) rfl))) Via.refl e0 F_firsts_o0 (g := (mkF m 2 #[.val (.ref o0), .val (.int i1), s2, .unset] [(.ref o0), (.int i1)])) rfl rfl (hb hby d3_2)
  obtain ⟨T6, X6, e6, st6⟩ := getF X5 hx hZ hown (host := "") (Or.inl (hw _ (List.mem_of_getElem? (i := 10) rfl))) Via.refl e5 F_firsts_o0 (g := (mkF m 10 #[.val (.ref o0), .val (.int i1), s2, .unset] [(.ref o0)])) rfl rfl (hb hby d3_10)
  refine ⟨T6, X6, e6, fun target kt => ?_⟩
  show Steps p.tables e below (T0.setTop (mkF m 0 #[.val (.ref o0), .val (.int i1), s2, .unset] [])) _
  refine XS.iloadN X0.here hx rfl (hb hby d3_0) rfl ?_
  show Steps p.tables e below (T0.setTop (mkF m 1 #[.val (.ref o0), .val (.int i1), s2, .unset] [(.int i1)])) _
  refine XS.aloadN X0.here hx rfl (hb hby d3_1) rfl rfl ?_
  show Steps p.tables e below (T0.setTop (mkF m 2 #[.val (.ref o0), .val (.int i1), s2, .unset] [(.ref o0), (.int i1)])) _
  refine st5 _ ?_
  show Steps p.tables e below (T5.setTop (mkF m 5 #[.val (.ref o0), .val (.int i1), s2, .unset] [(.ref w4), (.int i1)])) _
  refine X5.arraylength hx (by rw [e5]; exact Ar_w4.1) (State.isArrayOf_alike hZ.alike Ar_w4.2.1) (g := (mkF m 5 #[.val (.ref o0), .val (.int i1), s2, .unset] [(.ref w4), (.int i1)])) rfl rfl (hb hby d3_5) _ ?_
  rw [len_of S_w4 N_w4]
  show Steps p.tables e below (T5.setTop (mkF m 6 #[.val (.ref o0), .val (.int i1), s2, .unset] [(.int z_w4), (.int i1)])) _
  refine XS.icmpNo X5.here hx rfl (hb hby d3_6) rfl (flt hc6).1 ?_
  show Steps p.tables e below (T5.setTop (mkF m 9 #[.val (.ref o0), .val (.int i1), s2, .unset] [])) _
  refine XS.aloadN X5.here hx rfl (hb hby d3_9) rfl rfl ?_
  show Steps p.tables e below (T5.setTop (mkF m 10 #[.val (.ref o0), .val (.int i1), s2, .unset] [(.ref o0)])) _
  refine st6 _ ?_
  show Steps p.tables e below (T6.setTop (mkF m 13 #[.val (.ref o0), .val (.int i1), s2, .unset] [(.ref w4)])) _
  refine X6.arraylength hx (by rw [e6]; exact Ar_w4.1) (State.isArrayOf_alike hZ.alike Ar_w4.2.1) (g := (mkF m 13 #[.val (.ref o0), .val (.int i1), s2, .unset] [(.ref w4)])) rfl rfl (hb hby d3_13) _ ?_
  rw [len_of S_w4 N_w4]
  show Steps p.tables e below (T6.setTop (mkF m 14 #[.val (.ref o0), .val (.int i1), s2, .unset] [(.int z_w4)])) _
  refine XS.istoreN X6.here hx rfl (hb hby d3_14) rfl (l' := #[.val (.ref o0), .val (.int i1), s2, .val (.int z_w4)]) (os3_14 hs3) ?_
  exact kt
set_option maxRecDepth 65536 in
set_option maxHeartbeats 40000000 in
theorem own_a0s {p : Program} {l : Launch} {e : Env} {R : Room} {s : State} {m : MethodId} {args : Array Value} {below : List Frame} {meth : Method} {c : Code} {T0 : State} {locs : List Loc} {cells slots : Nat} {Z : State} {a0 : Array Value} {h0 : Heap} (o0 : Addr) (i1 : Int32) (s2 : Slot) (s3 : Slot) (w4 : Addr) (cl_w4 : Cell) (z_w4 : Int32)
    (X0 : Stand p l e R s m args below meth c T0 locs cells slots) (hx : p.tables.exec = Jvm.exec) (hZ : Z.Warmed39 s.vm) (hw : ∀ d ∈ tables_1, d.before a0 Z = true) (hby : c.code = prog_60_method_2_code) (hml : c.maxLocals = 4) (hown : s.vm.findClass "com/example/redress/redress/definition/Waiters" = some m.cls) (e0 : T0.heap = h0) (F_firsts_o0 : Fld Z h0 o0 "com/example/redress/redress/definition/Waiters" "firsts" "[I" (.ref w4)) (Ar_w4 : Arr Z h0 w4 cl_w4 .int) (S_w4 : cl_w4.slots.size = z_w4.toNatClampNeg) (N_w4 : ¬ z_w4 < 0) (hc6 : i1 < z_w4) :
    ∃ (T' : State), Stand p l e R s m args below meth c T' locs cells slots ∧ T'.heap = h0 ∧
      ∀ target, Steps p.tables e below (T'.setTop (mkF m 65 #[.val (.ref o0), .val (.int i1), s2, s3] [])) target → Steps p.tables e below (T0.setTop (mkF m 0 #[.val (.ref o0), .val (.int i1), s2, s3] [])) target := by
  obtain ⟨T5, X5, e5, st5⟩ := getF X0 hx hZ hown (host := "") (Or.inl (hw _ (List.mem_of_getElem? (i := 10) rfl))) Via.refl e0 F_firsts_o0 (g := (mkF m 2 #[.val (.ref o0), .val (.int i1), s2, s3] [(.ref o0), (.int i1)])) rfl rfl (hb hby d3_2)
  refine ⟨T5, X5, e5, fun target kt => ?_⟩
  show Steps p.tables e below (T0.setTop (mkF m 0 #[.val (.ref o0), .val (.int i1), s2, s3] [])) _
  refine XS.iloadN X0.here hx rfl (hb hby d3_0) rfl ?_
  show Steps p.tables e below (T0.setTop (mkF m 1 #[.val (.ref o0), .val (.int i1), s2, s3] [(.int i1)])) _
  refine XS.aloadN X0.here hx rfl (hb hby d3_1) rfl rfl ?_
  show Steps p.tables e below (T0.setTop (mkF m 2 #[.val (.ref o0), .val (.int i1), s2, s3] [(.ref o0), (.int i1)])) _
  refine st5 _ ?_
  show Steps p.tables e below (T5.setTop (mkF m 5 #[.val (.ref o0), .val (.int i1), s2, s3] [(.ref w4), (.int i1)])) _
  refine X5.arraylength hx (by rw [e5]; exact Ar_w4.1) (State.isArrayOf_alike hZ.alike Ar_w4.2.1) (g := (mkF m 5 #[.val (.ref o0), .val (.int i1), s2, s3] [(.ref w4), (.int i1)])) rfl rfl (hb hby d3_5) _ ?_
  rw [len_of S_w4 N_w4]
  show Steps p.tables e below (T5.setTop (mkF m 6 #[.val (.ref o0), .val (.int i1), s2, s3] [(.int z_w4), (.int i1)])) _
  refine XS.icmpYes X5.here hx rfl (pc0 := 6) (pc' := 65) rfl (hb hby d3_6) rfl (tlt hc6).1 (by decide) (by decide) ?_
  exact kt
theorem d3_15 : decode prog_60_method_2_code 15 = .ok (.aload_n 0, 1) := by decide +kernel
theorem d3_16 : decode prog_60_method_2_code 16 = .ok (.aload_n 0, 1) := by decide +kernel
theorem d3_17 : decode prog_60_method_2_code 17 = .ok (.getfield 7, 3) := by decide +kernel
theorem d3_20 : decode prog_60_method_2_code 20 = .ok (.iconst 2, 1) := by decide +kernel
theorem d3_21 : decode prog_60_method_2_code 21 = .ok (.iload_n 3, 1) := by decide +kernel
theorem d3_22 : decode prog_60_method_2_code 22 = .ok (.imul, 1) := by decide +kernel
theorem d3_23 : decode prog_60_method_2_code 23 = .ok (.iload_n 1, 1) := by decide +kernel
theorem d3_24 : decode prog_60_method_2_code 24 = .ok (.iconst 1, 1) := by decide +kernel
theorem d3_25 : decode prog_60_method_2_code 25 = .ok (.iadd, 1) := by decide +kernel
theorem d3_26 : decode prog_60_method_2_code 26 = .ok (.invokestatic 22, 3) := by decide +kernel
theorem d3_29 : decode prog_60_method_2_code 29 = .ok (.invokestatic 28, 3) := by decide +kernel
theorem d3_32 : decode prog_60_method_2_code 32 = .ok (.putfield 7, 3) := by decide +kernel
theorem pd_3_2 : parseMethodDescriptor "(II)I" = some ⟨[.int, .int], some .int⟩ := by decide +kernel
theorem pd_3_3 : parseMethodDescriptor "([II)[I" = some ⟨[(.array .int), .int], some (.array .int)⟩ := by decide +kernel
set_option maxRecDepth 65536 in
set_option maxHeartbeats 40000000 in
theorem tn3_15_35 {p : Program} {l : Launch} {e : Env} {s : State} {m : MethodId} {args : Array Value} {below : List Frame} {meth : Method} {c : Code} {T0 : State} {locs : List Loc} {Z : State} {a0 : Array Value} {h0 : Heap} {n0 : Nat} (o0 : Addr) (s2 : Slot) (fA lA wA xA : Addr) (P Q M N n : Nat) (F G V X : Nat → Int32) (pp : Nat)
    (X0 : Stand p l e ({ frames := 2, cells := 4, slots := 92, locals := 33 } : Room) s m args below meth c T0 locs 0 0) (hx : p.tables.exec = Jvm.exec) (hZ : Z.Warmed39 s.vm) (hw : ∀ d ∈ tables_1, d.before a0 Z = true) (hby : c.code = prog_60_method_2_code) (hml : c.maxLocals = 4) (hown : s.vm.findClass "com/example/redress/redress/definition/Waiters" = some m.cls) (e0 : T0.heap = h0) (N0 : Fr n0 locs) (Z0 : n0 ≤ h0.size) (F_firsts_o0 : Fld Z h0 o0 "com/example/redress/redress/definition/Waiters" "firsts" "[I" (.ref fA)) (E_o0 : Exa Z h0 o0 "com/example/redress/redress/definition/Waiters") (g_o0 : n0 ≤ o0) (S : own_W Z n0 h0 o0 fA lA wA xA P Q M N n F G V X) (hPp : P ≤ pp) (hpp : pp ≤ 15) :
    ∃ (b7 : Addr) (T' : State) (h' : Heap) (locs' : List Loc), Stand p l e ({ frames := 2, cells := 4, slots := 92, locals := 33 } : Room) s m args below meth c T' locs' 1 30 ∧ T'.heap = h' ∧ Fr n0 locs' ∧ n0 ≤ h'.size ∧ (own_W Z n0 h' o0 b7 lA wA xA (max (2 * P) (pp + 1)) Q M N n (fun j => if j < P then F j else 0) G V X) ∧
      ∀ target, Steps p.tables e below (T'.setTop (mkF m 35 #[.val (.ref o0), .val (.int (Int32.ofNat pp)), s2, .val (.int (Int32.ofNat P))] [])) target → Steps p.tables e below (T0.setTop (mkF m 15 #[.val (.ref o0), .val (.int (Int32.ofNat pp)), s2, .val (.int (Int32.ofNat P))] [])) target := by
  obtain ⟨T5, X5, e5, st5⟩ := getF X0 hx hZ hown (host := "") (Or.inl (hw _ (List.mem_of_getElem? (i := 10) rfl))) Via.refl e0 F_firsts_o0 (g := (mkF m 17 #[.val (.ref o0), .val (.int (Int32.ofNat pp)), s2, .val (.int (Int32.ofNat P))] [(.ref o0), (.ref o0)])) rfl rfl (hb hby d3_17)
  obtain ⟨_, _, ⟨T6, L6, k6, n6⟩, -, X6, ⟨Lc6, hQ6, l6, y6, z6⟩, st6⟩ := Jvm.LawKit.callS X5 hx (y := (⟨"java/lang/Math", "max", "(II)I"⟩ : MethodName)) hown (mvT hZ (hw _ (List.mem_of_getElem? (i := 23) rfl))) (mvT hZ (hw _ (List.mem_of_getElem? (i := 24) rfl))) (mvT hZ (hw _ (List.mem_of_getElem? (i := 25) rfl))) (mvT hZ (hw _ (List.mem_of_getElem? (i := 26) rfl))) (by decide) (backOf (W := 2) (rm4 l Z a0 hw [] ((2 : Int32) * (Int32.ofNat P)) ((Int32.ofNat pp) + (1 : Int32)) h0 n0 Z0) hZ (hw _ (List.mem_of_getElem? (i := 26) rfl)) (hw _ (List.mem_of_getElem? (i := 25) rfl)) (by decide) (by decide)) (g := (mkF m 26 #[.val (.ref o0), .val (.int (Int32.ofNat pp)), s2, .val (.int (Int32.ofNat P))] [(.int ((Int32.ofNat pp) + (1 : Int32))), (.int ((2 : Int32) * (Int32.ofNat P))), (.ref fA), (.ref o0)])) rfl (by rw [hml]; rfl) (argsL := [(.int ((2 : Int32) * (Int32.ofNat P))), (.int ((Int32.ofNat pp) + (1 : Int32)))]) (rest := [(.ref fA), (.ref o0)]) (lenOf pd_3_2 rfl) rfl (by show 2 * 0 + _ ≤ _; exact Nat.le_of_eq rfl) (hb hby d3_26) (fun _ _ => ⟨rfl, e5, (Nat.le_of_ble_eq_true rfl), (Nat.le_of_ble_eq_true rfl)⟩)
  dsimp only [Pt.U, Pt.locs, Pt.cells, Pt.slots] at X6 l6 y6 z6 st6 hQ6
  subst l6 y6 z6
  rw [own_mx P pp (by omega) (by omega)] at hQ6
  obtain ⟨rfl, N6q, q6⟩ := hQ6
  have K6 : Keep h0 T6.heap [] := by rw [q6]; exact Keep.refl _ _
  have N6 := Fr.app N0 N6q
  obtain ⟨_, _, ⟨T7, L7, k7, n7⟩, -, X7, ⟨Lc7, hQ7, l7, y7, z7⟩, st7⟩ := Jvm.LawKit.callS X6 hx (y := (⟨"java/util/Arrays", "copyOf", "([II)[I"⟩ : MethodName)) hown (mvT hZ (hw _ (List.mem_of_getElem? (i := 27) rfl))) (mvT hZ (hw _ (List.mem_of_getElem? (i := 28) rfl))) (mvT hZ (hw _ (List.mem_of_getElem? (i := 29) rfl))) (mvT hZ (hw _ (List.mem_of_getElem? (i := 30) rfl))) (by decide) (backOf (W := 1) (rm5 l Z a0 hw [] fA P (max (2 * P) (pp + 1)) (by omega) (by omega) (fun j => .int (F j)) T6.heap n0 (by rw [q6]; exact Z0) (by rw [q6]; exact S.2.2.2.2.1.1)) hZ (hw _ (List.mem_of_getElem? (i := 30) rfl)) (hw _ (List.mem_of_getElem? (i := 29) rfl)) (by decide) (by decide)) (g := (mkF m 29 #[.val (.ref o0), .val (.int (Int32.ofNat pp)), s2, .val (.int (Int32.ofNat P))] [(.int (Int32.ofNat (max (2 * P) (pp + 1)))), (.ref fA), (.ref o0)])) rfl (by rw [hml]; rfl) (argsL := [(.ref fA), (.int (Int32.ofNat (max (2 * P) (pp + 1))))]) (rest := [(.ref o0)]) (lenOf pd_3_3 rfl) rfl (by show 2 * 0 + _ ≤ _; exact Nat.le_of_eq rfl) (hb hby d3_29) (fun _ _ => ⟨rfl, rfl, (Nat.le_of_ble_eq_true rfl), (Nat.le_of_ble_eq_true rfl)⟩)
  dsimp only [Pt.U, Pt.locs, Pt.cells, Pt.slots] at X7 l7 y7 z7 st7 hQ7
  subst l7 y7 z7
  obtain ⟨b7, rfl, N7q, K7, sb7, V7⟩ := hQ7
  have KT : Keep h0 T7.heap [] := K6.trans K7 all0
  have KT1 : Keep h0 T7.heap [o0] := ((Keep.refl h0 [o0]).trans K6 all0).trans K7 all0
  have N7 := Fr.app N6 N7q
  obtain ⟨T8, h8, X8, e8, W8, st8⟩ := putF X7 hx hZ hown (host := "") (Or.inl (hw _ (List.mem_of_getElem? (i := 10) rfl))) Via.refl rfl ((F_firsts_o0.keep K6 nin0).keep K7 nin0) ((E_o0.keep K6).keep K7) (Or.inl (hw _ (List.mem_of_getElem? (i := 11) rfl))) (hw _ (List.mem_of_getElem? (i := 1) rfl)) (ty := (.array .int)) (by decide) rfl rfl (g := (mkF m 32 #[.val (.ref o0), .val (.int (Int32.ofNat pp)), s2, .val (.int (Int32.ofNat P))] [(.ref b7), (.ref o0)])) rfl rfl (hb hby d3_32)
  have Fw8 := ((F_firsts_o0.keep K6 nin0).keep K7 nin0).same W8
  have K8 : Keep h0 h8 [o0] := KT1.wr W8 (Or.inl (List.mem_of_getElem? (i := 0) rfl))
  have N8 := Fr.snoc X8 N7 g_o0
  refine ⟨b7, T8, _, _, X8, e8, N8, (Nat.le_trans Z0 K8.1), S.set0 hw KT V7.ifI (Nat.le_trans (Nat.le_of_eq (by rw [q6])) sb7) Z0 W8, fun target kt => ?_⟩
  show Steps p.tables e below (T0.setTop (mkF m 15 #[.val (.ref o0), .val (.int (Int32.ofNat pp)), s2, .val (.int (Int32.ofNat P))] [])) _
  refine XS.aloadN X0.here hx rfl (hb hby d3_15) rfl rfl ?_
  show Steps p.tables e below (T0.setTop (mkF m 16 #[.val (.ref o0), .val (.int (Int32.ofNat pp)), s2, .val (.int (Int32.ofNat P))] [(.ref o0)])) _
  refine XS.aloadN X0.here hx rfl (hb hby d3_16) rfl rfl ?_
  show Steps p.tables e below (T0.setTop (mkF m 17 #[.val (.ref o0), .val (.int (Int32.ofNat pp)), s2, .val (.int (Int32.ofNat P))] [(.ref o0), (.ref o0)])) _
  refine st5 _ ?_
  show Steps p.tables e below (T5.setTop (mkF m 20 #[.val (.ref o0), .val (.int (Int32.ofNat pp)), s2, .val (.int (Int32.ofNat P))] [(.ref fA), (.ref o0)])) _
  refine XS.iconst X5.here hx rfl (hb hby d3_20) ?_
  show Steps p.tables e below (T5.setTop (mkF m 21 #[.val (.ref o0), .val (.int (Int32.ofNat pp)), s2, .val (.int (Int32.ofNat P))] [(.int (2 : Int32)), (.ref fA), (.ref o0)])) _
  refine XS.iloadN X5.here hx rfl (hb hby d3_21) rfl ?_
  show Steps p.tables e below (T5.setTop (mkF m 22 #[.val (.ref o0), .val (.int (Int32.ofNat pp)), s2, .val (.int (Int32.ofNat P))] [(.int (Int32.ofNat P)), (.int (2 : Int32)), (.ref fA), (.ref o0)])) _
  refine XS.imul X5.here hx rfl (hb hby d3_22) rfl ?_
  show Steps p.tables e below (T5.setTop (mkF m 23 #[.val (.ref o0), .val (.int (Int32.ofNat pp)), s2, .val (.int (Int32.ofNat P))] [(.int ((2 : Int32) * (Int32.ofNat P))), (.ref fA), (.ref o0)])) _
  refine XS.iloadN X5.here hx rfl (hb hby d3_23) rfl ?_
  show Steps p.tables e below (T5.setTop (mkF m 24 #[.val (.ref o0), .val (.int (Int32.ofNat pp)), s2, .val (.int (Int32.ofNat P))] [(.int (Int32.ofNat pp)), (.int ((2 : Int32) * (Int32.ofNat P))), (.ref fA), (.ref o0)])) _
  refine XS.iconst X5.here hx rfl (hb hby d3_24) ?_
  show Steps p.tables e below (T5.setTop (mkF m 25 #[.val (.ref o0), .val (.int (Int32.ofNat pp)), s2, .val (.int (Int32.ofNat P))] [(.int (1 : Int32)), (.int (Int32.ofNat pp)), (.int ((2 : Int32) * (Int32.ofNat P))), (.ref fA), (.ref o0)])) _
  refine XS.iadd X5.here hx rfl (hb hby d3_25) rfl ?_
  show Steps p.tables e below (T5.setTop (mkF m 26 #[.val (.ref o0), .val (.int (Int32.ofNat pp)), s2, .val (.int (Int32.ofNat P))] [(.int ((Int32.ofNat pp) + (1 : Int32))), (.int ((2 : Int32) * (Int32.ofNat P))), (.ref fA), (.ref o0)])) _
  refine st6 _ ?_
  show Steps p.tables e below (T6.setTop (mkF m 29 #[.val (.ref o0), .val (.int (Int32.ofNat pp)), s2, .val (.int (Int32.ofNat P))] [(.int (Int32.ofNat (max (2 * P) (pp + 1)))), (.ref fA), (.ref o0)])) _
  refine st7 _ ?_
  show Steps p.tables e below (T7.setTop (mkF m 32 #[.val (.ref o0), .val (.int (Int32.ofNat pp)), s2, .val (.int (Int32.ofNat P))] [(.ref b7), (.ref o0)])) _
  refine st8 _ ?_
  exact kt
theorem d3_35 : decode prog_60_method_2_code 35 = .ok (.aload_n 0, 1) := by decide +kernel
theorem d3_36 : decode prog_60_method_2_code 36 = .ok (.aload_n 0, 1) := by decide +kernel
theorem d3_37 : decode prog_60_method_2_code 37 = .ok (.getfield 13, 3) := by decide +kernel
theorem d3_40 : decode prog_60_method_2_code 40 = .ok (.aload_n 0, 1) := by decide +kernel
theorem d3_41 : decode prog_60_method_2_code 41 = .ok (.getfield 7, 3) := by decide +kernel
theorem d3_44 : decode prog_60_method_2_code 44 = .ok (.arraylength, 1) := by decide +kernel
theorem d3_45 : decode prog_60_method_2_code 45 = .ok (.invokestatic 28, 3) := by decide +kernel
theorem d3_48 : decode prog_60_method_2_code 48 = .ok (.putfield 13, 3) := by decide +kernel
set_option maxRecDepth 65536 in
set_option maxHeartbeats 40000000 in
theorem tn3_35_51 {p : Program} {l : Launch} {e : Env} {s : State} {m : MethodId} {args : Array Value} {below : List Frame} {meth : Method} {c : Code} {T0 : State} {locs : List Loc} {Z : State} {a0 : Array Value} {h0 : Heap} {n0 : Nat} (o0 : Addr) (s1 : Slot) (s2 : Slot) (s3 : Slot) (cl_w6 : Cell) (fA lA wA xA : Addr) (P Q M N n : Nat) (F G V X : Nat → Int32)
    (X0 : Stand p l e ({ frames := 2, cells := 4, slots := 92, locals := 33 } : Room) s m args below meth c T0 locs 1 30) (hx : p.tables.exec = Jvm.exec) (hZ : Z.Warmed39 s.vm) (hw : ∀ d ∈ tables_1, d.before a0 Z = true) (hby : c.code = prog_60_method_2_code) (hml : c.maxLocals = 4) (hown : s.vm.findClass "com/example/redress/redress/definition/Waiters" = some m.cls) (e0 : T0.heap = h0) (N0 : Fr n0 locs) (Z0 : n0 ≤ h0.size) (F_lasts_o0 : Fld Z h0 o0 "com/example/redress/redress/definition/Waiters" "lasts" "[I" (.ref lA)) (F_firsts_o0 : Fld Z h0 o0 "com/example/redress/redress/definition/Waiters" "firsts" "[I" (.ref fA)) (Ar_w6 : Arr Z h0 fA cl_w6 .int) (S_w6 : cl_w6.slots.size = (Int32.ofNat P).toNatClampNeg) (N_w6 : ¬ (Int32.ofNat P) < 0) (E_o0 : Exa Z h0 o0 "com/example/redress/redress/definition/Waiters") (g_o0 : n0 ≤ o0) (S : own_W Z n0 h0 o0 fA lA wA xA P Q M N n F G V X) (hlt : Q < P) (hcap : P ≤ 30) :
    ∃ (b8 : Addr) (T' : State) (h' : Heap) (locs' : List Loc), Stand p l e ({ frames := 2, cells := 4, slots := 92, locals := 33 } : Room) s m args below meth c T' locs' 2 60 ∧ T'.heap = h' ∧ Fr n0 locs' ∧ n0 ≤ h'.size ∧ (own_W Z n0 h' o0 fA b8 wA xA P P M N n F (fun j => if j < Q then G j else 0) V X) ∧
      ∀ target, Steps p.tables e below (T'.setTop (mkF m 51 #[.val (.ref o0), s1, s2, s3] [])) target → Steps p.tables e below (T0.setTop (mkF m 35 #[.val (.ref o0), s1, s2, s3] [])) target := by
  obtain ⟨T5, X5, e5, st5⟩ := getF X0 hx hZ hown (host := "") (Or.inl (hw _ (List.mem_of_getElem? (i := 12) rfl))) Via.refl e0 F_lasts_o0 (g := (mkF m 37 #[.val (.ref o0), s1, s2, s3] [(.ref o0), (.ref o0)])) rfl rfl (hb hby d3_37)
  obtain ⟨T7, X7, e7, st7⟩ := getF X5 hx hZ hown (host := "") (Or.inl (hw _ (List.mem_of_getElem? (i := 10) rfl))) Via.refl e5 F_firsts_o0 (g := (mkF m 41 #[.val (.ref o0), s1, s2, s3] [(.ref o0), (.ref lA), (.ref o0)])) rfl rfl (hb hby d3_41)
  obtain ⟨_, _, ⟨T8, L8, k8, n8⟩, -, X8, ⟨Lc8, hQ8, l8, y8, z8⟩, st8⟩ := Jvm.LawKit.callS X7 hx (y := (⟨"java/util/Arrays", "copyOf", "([II)[I"⟩ : MethodName)) hown (mvT hZ (hw _ (List.mem_of_getElem? (i := 27) rfl))) (mvT hZ (hw _ (List.mem_of_getElem? (i := 28) rfl))) (mvT hZ (hw _ (List.mem_of_getElem? (i := 29) rfl))) (mvT hZ (hw _ (List.mem_of_getElem? (i := 30) rfl))) (by decide) (backOf (W := 1) (rm5 l Z a0 hw [] lA Q P hlt hcap (fun j => .int (G j)) h0 n0 Z0 S.2.2.2.2.1.2.1) hZ (hw _ (List.mem_of_getElem? (i := 30) rfl)) (hw _ (List.mem_of_getElem? (i := 29) rfl)) (by decide) (by decide)) (g := (mkF m 45 #[.val (.ref o0), s1, s2, s3] [(.int (Int32.ofNat P)), (.ref lA), (.ref o0)])) rfl (by rw [hml]; rfl) (argsL := [(.ref lA), (.int (Int32.ofNat P))]) (rest := [(.ref o0)]) (lenOf pd_3_3 rfl) rfl (by show 2 * 0 + _ ≤ _; exact Nat.le_of_eq rfl) (hb hby d3_45) (fun _ _ => ⟨rfl, e7, (Nat.le_of_ble_eq_true rfl), (Nat.le_of_ble_eq_true rfl)⟩)
  dsimp only [Pt.U, Pt.locs, Pt.cells, Pt.slots] at X8 l8 y8 z8 st8 hQ8
  subst l8 y8 z8
  obtain ⟨b8, rfl, N8q, K8, sb8, V8⟩ := hQ8
  have KT1 : Keep h0 T8.heap [o0] := (Keep.refl h0 [o0]).trans K8 all0
  have N8 := Fr.app N0 N8q
  obtain ⟨T9, h9, X9, e9, W9, st9⟩ := putF X8 hx hZ hown (host := "") (Or.inl (hw _ (List.mem_of_getElem? (i := 12) rfl))) Via.refl rfl (F_lasts_o0.keep K8 nin0) (E_o0.keep K8) (Or.inl (hw _ (List.mem_of_getElem? (i := 13) rfl))) (hw _ (List.mem_of_getElem? (i := 1) rfl)) (ty := (.array .int)) (by decide) rfl rfl (g := (mkF m 48 #[.val (.ref o0), s1, s2, s3] [(.ref b8), (.ref o0)])) rfl rfl (hb hby d3_48)
  have Fw9 := (F_lasts_o0.keep K8 nin0).same W9
  have K9 : Keep h0 h9 [o0] := KT1.wr W9 (Or.inl (List.mem_of_getElem? (i := 0) rfl))
  have N9 := Fr.snoc X9 N8 g_o0
  refine ⟨b8, T9, _, _, X9, e9, N9, (Nat.le_trans Z0 K9.1), S.set1 hw K8 V8.ifI sb8 Z0 W9, fun target kt => ?_⟩
  show Steps p.tables e below (T0.setTop (mkF m 35 #[.val (.ref o0), s1, s2, s3] [])) _
  refine XS.aloadN X0.here hx rfl (hb hby d3_35) rfl rfl ?_
  show Steps p.tables e below (T0.setTop (mkF m 36 #[.val (.ref o0), s1, s2, s3] [(.ref o0)])) _
  refine XS.aloadN X0.here hx rfl (hb hby d3_36) rfl rfl ?_
  show Steps p.tables e below (T0.setTop (mkF m 37 #[.val (.ref o0), s1, s2, s3] [(.ref o0), (.ref o0)])) _
  refine st5 _ ?_
  show Steps p.tables e below (T5.setTop (mkF m 40 #[.val (.ref o0), s1, s2, s3] [(.ref lA), (.ref o0)])) _
  refine XS.aloadN X5.here hx rfl (hb hby d3_40) rfl rfl ?_
  show Steps p.tables e below (T5.setTop (mkF m 41 #[.val (.ref o0), s1, s2, s3] [(.ref o0), (.ref lA), (.ref o0)])) _
  refine st7 _ ?_
  show Steps p.tables e below (T7.setTop (mkF m 44 #[.val (.ref o0), s1, s2, s3] [(.ref fA), (.ref lA), (.ref o0)])) _
  refine X7.arraylength hx (by rw [e7]; exact Ar_w6.1) (State.isArrayOf_alike hZ.alike Ar_w6.2.1) (g := (mkF m 44 #[.val (.ref o0), s1, s2, s3] [(.ref fA), (.ref lA), (.ref o0)])) rfl rfl (hb hby d3_44) _ ?_
  rw [len_of S_w6 N_w6]
  show Steps p.tables e below (T7.setTop (mkF m 45 #[.val (.ref o0), s1, s2, s3] [(.int (Int32.ofNat P)), (.ref lA), (.ref o0)])) _
  refine st8 _ ?_
  show Steps p.tables e below (T8.setTop (mkF m 48 #[.val (.ref o0), s1, s2, s3] [(.ref b8), (.ref o0)])) _
  refine st9 _ ?_
  exact kt
theorem d3_51 : decode prog_60_method_2_code 51 = .ok (.aload_n 0, 1) := by decide +kernel
theorem d3_52 : decode prog_60_method_2_code 52 = .ok (.getfield 7, 3) := by decide +kernel
theorem d3_55 : decode prog_60_method_2_code 55 = .ok (.iload_n 3, 1) := by decide +kernel
theorem d3_56 : decode prog_60_method_2_code 56 = .ok (.aload_n 0, 1) := by decide +kernel
theorem d3_57 : decode prog_60_method_2_code 57 = .ok (.getfield 7, 3) := by decide +kernel
theorem d3_60 : decode prog_60_method_2_code 60 = .ok (.arraylength, 1) := by decide +kernel
theorem d3_61 : decode prog_60_method_2_code 61 = .ok (.iconst (-1), 1) := by decide +kernel
theorem d3_62 : decode prog_60_method_2_code 62 = .ok (.invokestatic 34, 3) := by decide +kernel
theorem pd_3_5 : parseMethodDescriptor "([IIII)V" = some ⟨[(.array .int), .int, .int, .int], none⟩ := by decide +kernel
set_option maxRecDepth 65536 in
set_option maxHeartbeats 40000000 in
theorem tn3_51_65 {p : Program} {l : Launch} {e : Env} {s : State} {m : MethodId} {args : Array Value} {below : List Frame} {meth : Method} {c : Code} {T0 : State} {locs : List Loc} {Z : State} {a0 : Array Value} {h0 : Heap} {n0 : Nat} (o0 : Addr) (s1 : Slot) (s2 : Slot) (cl_w4 : Cell) (fA lA wA xA : Addr) (P Q M N n : Nat) (F G V X : Nat → Int32) (fr : Nat)
    (X0 : Stand p l e ({ frames := 2, cells := 4, slots := 92, locals := 33 } : Room) s m args below meth c T0 locs 2 60) (hx : p.tables.exec = Jvm.exec) (hZ : Z.Warmed39 s.vm) (hw : ∀ d ∈ tables_1, d.before a0 Z = true) (hby : c.code = prog_60_method_2_code) (hml : c.maxLocals = 4) (hown : s.vm.findClass "com/example/redress/redress/definition/Waiters" = some m.cls) (e0 : T0.heap = h0) (N0 : Fr n0 locs) (Z0 : n0 ≤ h0.size) (F_firsts_o0 : Fld Z h0 o0 "com/example/redress/redress/definition/Waiters" "firsts" "[I" (.ref fA)) (Ar_w4 : Arr Z h0 fA cl_w4 .int) (S_w4 : cl_w4.slots.size = (Int32.ofNat P).toNatClampNeg) (N_w4 : ¬ (Int32.ofNat P) < 0) (S : own_W Z n0 h0 o0 fA lA wA xA P Q M N n F G V X) (hfr : fr ≤ P) :
    ∃ (T' : State) (h' : Heap) (locs' : List Loc), Stand p l e ({ frames := 2, cells := 4, slots := 92, locals := 33 } : Room) s m args below meth c T' locs' 2 60 ∧ T'.heap = h' ∧ Fr n0 locs' ∧ n0 ≤ h'.size ∧ (own_W Z n0 h' o0 fA lA wA xA P Q M N n (own_fl F fr P (-1)) G V X) ∧
      ∀ target, Steps p.tables e below (T'.setTop (mkF m 65 #[.val (.ref o0), s1, s2, .val (.int (Int32.ofNat fr))] [])) target → Steps p.tables e below (T0.setTop (mkF m 51 #[.val (.ref o0), s1, s2, .val (.int (Int32.ofNat fr))] [])) target := by
  obtain ⟨T5, X5, e5, st5⟩ := getF X0 hx hZ hown (host := "") (Or.inl (hw _ (List.mem_of_getElem? (i := 10) rfl))) Via.refl e0 F_firsts_o0 (g := (mkF m 52 #[.val (.ref o0), s1, s2, .val (.int (Int32.ofNat fr))] [(.ref o0)])) rfl rfl (hb hby d3_52)
  obtain ⟨T6, X6, e6, st6⟩ := getF X5 hx hZ hown (host := "") (Or.inl (hw _ (List.mem_of_getElem? (i := 10) rfl))) Via.refl e5 F_firsts_o0 (g := (mkF m 57 #[.val (.ref o0), s1, s2, .val (.int (Int32.ofNat fr))] [(.ref o0), (.int (Int32.ofNat fr)), (.ref fA)])) rfl rfl (hb hby d3_57)
  obtain ⟨_, _, ⟨T7, L7, k7, n7⟩, -, X7, ⟨Lc7, hQ7, l7, y7, z7⟩, st7⟩ := Jvm.LawKit.callS X6 hx (y := (⟨"java/util/Arrays", "fill", "([IIII)V"⟩ : MethodName)) hown (mvT hZ (hw _ (List.mem_of_getElem? (i := 38) rfl))) (mvT hZ (hw _ (List.mem_of_getElem? (i := 39) rfl))) (mvT hZ (hw _ (List.mem_of_getElem? (i := 29) rfl))) (mvT hZ (hw _ (List.mem_of_getElem? (i := 40) rfl))) (by decide) (backOf (W := 0) (rm7 l Z a0 hw [] fA fr P (-1 : Int32) P F h0 n0 Z0 S.2.2.2.2.1.1 hfr (Nat.le_refl _) S.2.2.2.2.2.1.1) hZ (hw _ (List.mem_of_getElem? (i := 40) rfl)) (hw _ (List.mem_of_getElem? (i := 29) rfl)) (by decide) (by decide)) (g := (mkF m 62 #[.val (.ref o0), s1, s2, .val (.int (Int32.ofNat fr))] [(.int (-1 : Int32)), (.int (Int32.ofNat P)), (.int (Int32.ofNat fr)), (.ref fA)])) rfl (by rw [hml]; rfl) (argsL := [(.ref fA), (.int (Int32.ofNat fr)), (.int (Int32.ofNat P)), (.int (-1 : Int32))]) (rest := []) (lenOf pd_3_5 rfl) rfl (by show 2 * 0 + _ ≤ _; exact Nat.le_of_eq rfl) (hb hby d3_62) (fun _ _ => ⟨rfl, e6, (Nat.le_of_ble_eq_true rfl), (Nat.le_of_ble_eq_true rfl)⟩)
  dsimp only [Pt.U, Pt.locs, Pt.cells, Pt.slots] at X7 l7 y7 z7 st7 hQ7
  subst l7 y7 z7
  obtain ⟨rfl, N7q, Z7, K7, V7⟩ := hQ7
  have N7 := Fr.app N0 N7q
  refine ⟨T7, _, _, X7, rfl, N7, Z7, S.arr0 hw K7 V7, fun target kt => ?_⟩
  show Steps p.tables e below (T0.setTop (mkF m 51 #[.val (.ref o0), s1, s2, .val (.int (Int32.ofNat fr))] [])) _
  refine XS.aloadN X0.here hx rfl (hb hby d3_51) rfl rfl ?_
  show Steps p.tables e below (T0.setTop (mkF m 52 #[.val (.ref o0), s1, s2, .val (.int (Int32.ofNat fr))] [(.ref o0)])) _
  refine st5 _ ?_
  show Steps p.tables e below (T5.setTop (mkF m 55 #[.val (.ref o0), s1, s2, .val (.int (Int32.ofNat fr))] [(.ref fA)])) _
  refine XS.iloadN X5.here hx rfl (hb hby d3_55) rfl ?_
  show Steps p.tables e below (T5.setTop (mkF m 56 #[.val (.ref o0), s1, s2, .val (.int (Int32.ofNat fr))] [(.int (Int32.ofNat fr)), (.ref fA)])) _
  refine XS.aloadN X5.here hx rfl (hb hby d3_56) rfl rfl ?_
  show Steps p.tables e below (T5.setTop (mkF m 57 #[.val (.ref o0), s1, s2, .val (.int (Int32.ofNat fr))] [(.ref o0), (.int (Int32.ofNat fr)), (.ref fA)])) _
  refine st6 _ ?_
  show Steps p.tables e below (T6.setTop (mkF m 60 #[.val (.ref o0), s1, s2, .val (.int (Int32.ofNat fr))] [(.ref fA), (.int (Int32.ofNat fr)), (.ref fA)])) _
  refine X6.arraylength hx (by rw [e6]; exact Ar_w4.1) (State.isArrayOf_alike hZ.alike Ar_w4.2.1) (g := (mkF m 60 #[.val (.ref o0), s1, s2, .val (.int (Int32.ofNat fr))] [(.ref fA), (.int (Int32.ofNat fr)), (.ref fA)])) rfl rfl (hb hby d3_60) _ ?_
  rw [len_of S_w4 N_w4]
  show Steps p.tables e below (T6.setTop (mkF m 61 #[.val (.ref o0), s1, s2, .val (.int (Int32.ofNat fr))] [(.int (Int32.ofNat P)), (.int (Int32.ofNat fr)), (.ref fA)])) _
  refine XS.iconst X6.here hx rfl (hb hby d3_61) ?_
  show Steps p.tables e below (T6.setTop (mkF m 62 #[.val (.ref o0), s1, s2, .val (.int (Int32.ofNat fr))] [(.int (-1 : Int32)), (.int (Int32.ofNat P)), (.int (Int32.ofNat fr)), (.ref fA)])) _
  refine st7 _ ?_
  exact kt
theorem d3_65 : decode prog_60_method_2_code 65 = .ok (.aload_n 0, 1) := by decide +kernel
theorem d3_66 : decode prog_60_method_2_code 66 = .ok (.getfield 38, 3) := by decide +kernel
theorem d3_69 : decode prog_60_method_2_code 69 = .ok (.aload_n 0, 1) := by decide +kernel
theorem d3_70 : decode prog_60_method_2_code 70 = .ok (.getfield 16, 3) := by decide +kernel
theorem d3_73 : decode prog_60_method_2_code 73 = .ok (.arraylength, 1) := by decide +kernel
theorem d3_74 : decode prog_60_method_2_code 74 = .ok (.if_icmp .ne 41, 3) := by decide +kernel
set_option maxRecDepth 65536 in
set_option maxHeartbeats 40000000 in
theorem own_a65 {p : Program} {l : Launch} {e : Env} {R : Room} {s : State} {m : MethodId} {args : Array Value} {below : List Frame} {meth : Method} {c : Code} {T0 : State} {locs : List Loc} {cells slots : Nat} {Z : State} {a0 : Array Value} {h0 : Heap} (o0 : Addr) (s1 : Slot) (s2 : Slot) (s3 : Slot) (w4 : Int32) (w6 : Addr) (cl_w6 : Cell) (z_w6 : Int32)
    (X0 : Stand p l e R s m args below meth c T0 locs cells slots) (hx : p.tables.exec = Jvm.exec) (hZ : Z.Warmed39 s.vm) (hw : ∀ d ∈ tables_1, d.before a0 Z = true) (hby : c.code = prog_60_method_2_code) (hml : c.maxLocals = 4) (hown : s.vm.findClass "com/example/redress/redress/definition/Waiters" = some m.cls) (e0 : T0.heap = h0) (F_entries_o0 : Fld Z h0 o0 "com/example/redress/redress/definition/Waiters" "entries" "I" (.int w4)) (F_waiters_o0 : Fld Z h0 o0 "com/example/redress/redress/definition/Waiters" "waiters" "[I" (.ref w6)) (Ar_w6 : Arr Z h0 w6 cl_w6 .int) (S_w6 : cl_w6.slots.size = z_w6.toNatClampNeg) (N_w6 : ¬ z_w6 < 0) (hc74 : w4 = z_w6) :
    ∃ (T' : State), Stand p l e R s m args below meth c T' locs cells slots ∧ T'.heap = h0 ∧
      ∀ target, Steps p.tables e below (T'.setTop (mkF m 77 #[.val (.ref o0), s1, s2, s3] [])) target → Steps p.tables e below (T0.setTop (mkF m 65 #[.val (.ref o0), s1, s2, s3] [])) target := by
  obtain ⟨T5, X5, e5, st5⟩ := getF X0 hx hZ hown (host := "") (Or.inl (hw _ (List.mem_of_getElem? (i := 44) rfl))) Via.refl e0 F_entries_o0 (g := (mkF m 66 #[.val (.ref o0), s1, s2, s3] [(.ref o0)])) rfl rfl (hb hby d3_66)
  obtain ⟨T7, X7, e7, st7⟩ := getF X5 hx hZ hown (host := "") (Or.inl (hw _ (List.mem_of_getElem? (i := 14) rfl))) Via.refl e5 F_waiters_o0 (g := (mkF m 70 #[.val (.ref o0), s1, s2, s3] [(.ref o0), (.int w4)])) rfl rfl (hb hby d3_70)
  refine ⟨T7, X7, e7, fun target kt => ?_⟩
  show Steps p.tables e below (T0.setTop (mkF m 65 #[.val (.ref o0), s1, s2, s3] [])) _
  refine XS.aloadN X0.here hx rfl (hb hby d3_65) rfl rfl ?_
  show Steps p.tables e below (T0.setTop (mkF m 66 #[.val (.ref o0), s1, s2, s3] [(.ref o0)])) _
  refine st5 _ ?_
  show Steps p.tables e below (T5.setTop (mkF m 69 #[.val (.ref o0), s1, s2, s3] [(.int w4)])) _
  refine XS.aloadN X5.here hx rfl (hb hby d3_69) rfl rfl ?_
  show Steps p.tables e below (T5.setTop (mkF m 70 #[.val (.ref o0), s1, s2, s3] [(.ref o0), (.int w4)])) _
  refine st7 _ ?_
  show Steps p.tables e below (T7.setTop (mkF m 73 #[.val (.ref o0), s1, s2, s3] [(.ref w6), (.int w4)])) _
  refine X7.arraylength hx (by rw [e7]; exact Ar_w6.1) (State.isArrayOf_alike hZ.alike Ar_w6.2.1) (g := (mkF m 73 #[.val (.ref o0), s1, s2, s3] [(.ref w6), (.int w4)])) rfl rfl (hb hby d3_73) _ ?_
  rw [len_of S_w6 N_w6]
  show Steps p.tables e below (T7.setTop (mkF m 74 #[.val (.ref o0), s1, s2, s3] [(.int z_w6), (.int w4)])) _
  refine XS.icmpNo X7.here hx rfl (hb hby d3_74) rfl (teq hc74).2 ?_
  exact kt
set_option maxRecDepth 65536 in
set_option maxHeartbeats 40000000 in
theorem own_a65s {p : Program} {l : Launch} {e : Env} {R : Room} {s : State} {m : MethodId} {args : Array Value} {below : List Frame} {meth : Method} {c : Code} {T0 : State} {locs : List Loc} {cells slots : Nat} {Z : State} {a0 : Array Value} {h0 : Heap} (o0 : Addr) (s1 : Slot) (s2 : Slot) (s3 : Slot) (w4 : Int32) (w6 : Addr) (cl_w6 : Cell) (z_w6 : Int32)
    (X0 : Stand p l e R s m args below meth c T0 locs cells slots) (hx : p.tables.exec = Jvm.exec) (hZ : Z.Warmed39 s.vm) (hw : ∀ d ∈ tables_1, d.before a0 Z = true) (hby : c.code = prog_60_method_2_code) (hml : c.maxLocals = 4) (hown : s.vm.findClass "com/example/redress/redress/definition/Waiters" = some m.cls) (e0 : T0.heap = h0) (F_entries_o0 : Fld Z h0 o0 "com/example/redress/redress/definition/Waiters" "entries" "I" (.int w4)) (F_waiters_o0 : Fld Z h0 o0 "com/example/redress/redress/definition/Waiters" "waiters" "[I" (.ref w6)) (Ar_w6 : Arr Z h0 w6 cl_w6 .int) (S_w6 : cl_w6.slots.size = z_w6.toNatClampNeg) (N_w6 : ¬ z_w6 < 0) (hc74 : ¬ (w4 = z_w6)) :
    ∃ (T' : State), Stand p l e R s m args below meth c T' locs cells slots ∧ T'.heap = h0 ∧
      ∀ target, Steps p.tables e below (T'.setTop (mkF m 115 #[.val (.ref o0), s1, s2, s3] [])) target → Steps p.tables e below (T0.setTop (mkF m 65 #[.val (.ref o0), s1, s2, s3] [])) target := by
  obtain ⟨T5, X5, e5, st5⟩ := getF X0 hx hZ hown (host := "") (Or.inl (hw _ (List.mem_of_getElem? (i := 44) rfl))) Via.refl e0 F_entries_o0 (g := (mkF m 66 #[.val (.ref o0), s1, s2, s3] [(.ref o0)])) rfl rfl (hb hby d3_66)
  obtain ⟨T7, X7, e7, st7⟩ := getF X5 hx hZ hown (host := "") (Or.inl (hw _ (List.mem_of_getElem? (i := 14) rfl))) Via.refl e5 F_waiters_o0 (g := (mkF m 70 #[.val (.ref o0), s1, s2, s3] [(.ref o0), (.int w4)])) rfl rfl (hb hby d3_70)
  refine ⟨T7, X7, e7, fun target kt => ?_⟩
  show Steps p.tables e below (T0.setTop (mkF m 65 #[.val (.ref o0), s1, s2, s3] [])) _
  refine XS.aloadN X0.here hx rfl (hb hby d3_65) rfl rfl ?_
  show Steps p.tables e below (T0.setTop (mkF m 66 #[.val (.ref o0), s1, s2, s3] [(.ref o0)])) _
  refine st5 _ ?_
  show Steps p.tables e below (T5.setTop (mkF m 69 #[.val (.ref o0), s1, s2, s3] [(.int w4)])) _
  refine XS.aloadN X5.here hx rfl (hb hby d3_69) rfl rfl ?_
  show Steps p.tables e below (T5.setTop (mkF m 70 #[.val (.ref o0), s1, s2, s3] [(.ref o0), (.int w4)])) _
  refine st7 _ ?_
  show Steps p.tables e below (T7.setTop (mkF m 73 #[.val (.ref o0), s1, s2, s3] [(.ref w6), (.int w4)])) _
  refine X7.arraylength hx (by rw [e7]; exact Ar_w6.1) (State.isArrayOf_alike hZ.alike Ar_w6.2.1) (g := (mkF m 73 #[.val (.ref o0), s1, s2, s3] [(.ref w6), (.int w4)])) rfl rfl (hb hby d3_73) _ ?_
  rw [len_of S_w6 N_w6]
  show Steps p.tables e below (T7.setTop (mkF m 74 #[.val (.ref o0), s1, s2, s3] [(.int z_w6), (.int w4)])) _
  refine XS.icmpYes X7.here hx rfl (pc0 := 74) (pc' := 115) rfl (hb hby d3_74) rfl (feq hc74).2 (by decide) (by decide) ?_
  exact kt
theorem d3_77 : decode prog_60_method_2_code 77 = .ok (.aload_n 0, 1) := by decide +kernel
theorem d3_78 : decode prog_60_method_2_code 78 = .ok (.aload_n 0, 1) := by decide +kernel
theorem d3_79 : decode prog_60_method_2_code 79 = .ok (.getfield 16, 3) := by decide +kernel
theorem d3_82 : decode prog_60_method_2_code 82 = .ok (.bipush 16, 2) := by decide +kernel
theorem d3_84 : decode prog_60_method_2_code 84 = .ok (.iconst 2, 1) := by decide +kernel
theorem d3_85 : decode prog_60_method_2_code 85 = .ok (.aload_n 0, 1) := by decide +kernel
theorem d3_86 : decode prog_60_method_2_code 86 = .ok (.getfield 38, 3) := by decide +kernel
theorem d3_89 : decode prog_60_method_2_code 89 = .ok (.imul, 1) := by decide +kernel
theorem d3_90 : decode prog_60_method_2_code 90 = .ok (.invokestatic 22, 3) := by decide +kernel
theorem d3_93 : decode prog_60_method_2_code 93 = .ok (.invokestatic 28, 3) := by decide +kernel
theorem d3_96 : decode prog_60_method_2_code 96 = .ok (.putfield 16, 3) := by decide +kernel
set_option maxRecDepth 65536 in
set_option maxHeartbeats 40000000 in
theorem tn3_77_99 {p : Program} {l : Launch} {e : Env} {s : State} {m : MethodId} {args : Array Value} {below : List Frame} {meth : Method} {c : Code} {T0 : State} {locs : List Loc} {Z : State} {a0 : Array Value} {h0 : Heap} {n0 : Nat} (o0 : Addr) (s1 : Slot) (s2 : Slot) (s3 : Slot) (fA lA wA xA : Addr) (P Q N : Nat) (F G V X : Nat → Int32)
    (X0 : Stand p l e ({ frames := 2, cells := 4, slots := 92, locals := 33 } : Room) s m args below meth c T0 locs 2 60) (hx : p.tables.exec = Jvm.exec) (hZ : Z.Warmed39 s.vm) (hw : ∀ d ∈ tables_1, d.before a0 Z = true) (hby : c.code = prog_60_method_2_code) (hml : c.maxLocals = 4) (hown : s.vm.findClass "com/example/redress/redress/definition/Waiters" = some m.cls) (e0 : T0.heap = h0) (N0 : Fr n0 locs) (Z0 : n0 ≤ h0.size) (F_waiters_o0 : Fld Z h0 o0 "com/example/redress/redress/definition/Waiters" "waiters" "[I" (.ref wA)) (F_entries_o0 : Fld Z h0 o0 "com/example/redress/redress/definition/Waiters" "entries" "I" (.int (Int32.ofNat 0))) (E_o0 : Exa Z h0 o0 "com/example/redress/redress/definition/Waiters") (g_o0 : n0 ≤ o0) (S : own_W Z n0 h0 o0 fA lA wA xA P Q 0 N 0 F G V X) :
    ∃ (b9 : Addr) (T' : State) (h' : Heap) (locs' : List Loc), Stand p l e ({ frames := 2, cells := 4, slots := 92, locals := 33 } : Room) s m args below meth c T' locs' 3 76 ∧ T'.heap = h' ∧ Fr n0 locs' ∧ n0 ≤ h'.size ∧ (own_W Z n0 h' o0 fA lA b9 xA P Q 16 N 0 F G (fun j => if j < 0 then V j else 0) X) ∧
      ∀ target, Steps p.tables e below (T'.setTop (mkF m 99 #[.val (.ref o0), s1, s2, s3] [])) target → Steps p.tables e below (T0.setTop (mkF m 77 #[.val (.ref o0), s1, s2, s3] [])) target := by
  obtain ⟨T5, X5, e5, st5⟩ := getF X0 hx hZ hown (host := "") (Or.inl (hw _ (List.mem_of_getElem? (i := 14) rfl))) Via.refl e0 F_waiters_o0 (g := (mkF m 79 #[.val (.ref o0), s1, s2, s3] [(.ref o0), (.ref o0)])) rfl rfl (hb hby d3_79)
  obtain ⟨T7, X7, e7, st7⟩ := getF X5 hx hZ hown (host := "") (Or.inl (hw _ (List.mem_of_getElem? (i := 44) rfl))) Via.refl e5 F_entries_o0 (g := (mkF m 86 #[.val (.ref o0), s1, s2, s3] [(.ref o0), (.int (2 : Int32)), (.int (16 : Int32)), (.ref wA), (.ref o0)])) rfl rfl (hb hby d3_86)
  obtain ⟨_, _, ⟨T8, L8, k8, n8⟩, -, X8, ⟨Lc8, hQ8, l8, y8, z8⟩, st8⟩ := Jvm.LawKit.callS X7 hx (y := (⟨"java/lang/Math", "max", "(II)I"⟩ : MethodName)) hown (mvT hZ (hw _ (List.mem_of_getElem? (i := 23) rfl))) (mvT hZ (hw _ (List.mem_of_getElem? (i := 24) rfl))) (mvT hZ (hw _ (List.mem_of_getElem? (i := 25) rfl))) (mvT hZ (hw _ (List.mem_of_getElem? (i := 26) rfl))) (by decide) (backOf (W := 2) (rm4 l Z a0 hw [] (16 : Int32) ((2 : Int32) * (Int32.ofNat 0)) h0 n0 Z0) hZ (hw _ (List.mem_of_getElem? (i := 26) rfl)) (hw _ (List.mem_of_getElem? (i := 25) rfl)) (by decide) (by decide)) (g := (mkF m 90 #[.val (.ref o0), s1, s2, s3] [(.int ((2 : Int32) * (Int32.ofNat 0))), (.int (16 : Int32)), (.ref wA), (.ref o0)])) rfl (by rw [hml]; rfl) (argsL := [(.int (16 : Int32)), (.int ((2 : Int32) * (Int32.ofNat 0)))]) (rest := [(.ref wA), (.ref o0)]) (lenOf pd_3_2 rfl) rfl (by show 2 * 0 + _ ≤ _; exact Nat.le_of_eq rfl) (hb hby d3_90) (fun _ _ => ⟨rfl, e7, (Nat.le_of_ble_eq_true rfl), (Nat.le_of_ble_eq_true rfl)⟩)
  dsimp only [Pt.U, Pt.locs, Pt.cells, Pt.slots] at X8 l8 y8 z8 st8 hQ8
  subst l8 y8 z8
  rw [own_mx2] at hQ8
  obtain ⟨rfl, N8q, q8⟩ := hQ8
  have K8 : Keep h0 T8.heap [] := by rw [q8]; exact Keep.refl _ _
  have N8 := Fr.app N0 N8q
  obtain ⟨_, _, ⟨T9, L9, k9, n9⟩, -, X9, ⟨Lc9, hQ9, l9, y9, z9⟩, st9⟩ := Jvm.LawKit.callS X8 hx (y := (⟨"java/util/Arrays", "copyOf", "([II)[I"⟩ : MethodName)) hown (mvT hZ (hw _ (List.mem_of_getElem? (i := 27) rfl))) (mvT hZ (hw _ (List.mem_of_getElem? (i := 28) rfl))) (mvT hZ (hw _ (List.mem_of_getElem? (i := 29) rfl))) (mvT hZ (hw _ (List.mem_of_getElem? (i := 30) rfl))) (by decide) (backOf (W := 1) (rm5b l Z a0 hw [] wA 0 16 (by decide) (by decide) (fun j => .int (V j)) T8.heap n0 (by rw [q8]; exact Z0) (by rw [q8]; exact S.2.2.2.2.1.2.2.1)) hZ (hw _ (List.mem_of_getElem? (i := 30) rfl)) (hw _ (List.mem_of_getElem? (i := 29) rfl)) (by decide) (by decide)) (g := (mkF m 93 #[.val (.ref o0), s1, s2, s3] [(.int (Int32.ofNat 16)), (.ref wA), (.ref o0)])) rfl (by rw [hml]; rfl) (argsL := [(.ref wA), (.int (Int32.ofNat 16))]) (rest := [(.ref o0)]) (lenOf pd_3_3 rfl) rfl (by show 2 * 0 + _ ≤ _; exact Nat.le_of_eq rfl) (hb hby d3_93) (fun _ _ => ⟨rfl, rfl, (Nat.le_of_ble_eq_true rfl), (Nat.le_of_ble_eq_true rfl)⟩)
  dsimp only [Pt.U, Pt.locs, Pt.cells, Pt.slots] at X9 l9 y9 z9 st9 hQ9
  subst l9 y9 z9
  obtain ⟨b9, rfl, N9q, K9, sb9, V9⟩ := hQ9
  have KT : Keep h0 T9.heap [] := K8.trans K9 all0
  have KT1 : Keep h0 T9.heap [o0] := ((Keep.refl h0 [o0]).trans K8 all0).trans K9 all0
  have N9 := Fr.app N8 N9q
  obtain ⟨T10, h10, X10, e10, W10, st10⟩ := putF X9 hx hZ hown (host := "") (Or.inl (hw _ (List.mem_of_getElem? (i := 14) rfl))) Via.refl rfl ((F_waiters_o0.keep K8 nin0).keep K9 nin0) ((E_o0.keep K8).keep K9) (Or.inl (hw _ (List.mem_of_getElem? (i := 15) rfl))) (hw _ (List.mem_of_getElem? (i := 1) rfl)) (ty := (.array .int)) (by decide) rfl rfl (g := (mkF m 96 #[.val (.ref o0), s1, s2, s3] [(.ref b9), (.ref o0)])) rfl rfl (hb hby d3_96)
  have Fw10 := ((F_waiters_o0.keep K8 nin0).keep K9 nin0).same W10
  have K10 : Keep h0 h10 [o0] := KT1.wr W10 (Or.inl (List.mem_of_getElem? (i := 0) rfl))
  have N10 := Fr.snoc X10 N9 g_o0
  refine ⟨b9, T10, _, _, X10, e10, N10, (Nat.le_trans Z0 K10.1), S.set2 hw KT V9.ifI (Nat.le_trans (Nat.le_of_eq (by rw [q8])) sb9) Z0 W10, fun target kt => ?_⟩
  show Steps p.tables e below (T0.setTop (mkF m 77 #[.val (.ref o0), s1, s2, s3] [])) _
  refine XS.aloadN X0.here hx rfl (hb hby d3_77) rfl rfl ?_
  show Steps p.tables e below (T0.setTop (mkF m 78 #[.val (.ref o0), s1, s2, s3] [(.ref o0)])) _
  refine XS.aloadN X0.here hx rfl (hb hby d3_78) rfl rfl ?_
  show Steps p.tables e below (T0.setTop (mkF m 79 #[.val (.ref o0), s1, s2, s3] [(.ref o0), (.ref o0)])) _
  refine st5 _ ?_
  show Steps p.tables e below (T5.setTop (mkF m 82 #[.val (.ref o0), s1, s2, s3] [(.ref wA), (.ref o0)])) _
  refine XS.bipush X5.here hx rfl (hb hby d3_82) ?_
  show Steps p.tables e below (T5.setTop (mkF m 84 #[.val (.ref o0), s1, s2, s3] [(.int (16 : Int32)), (.ref wA), (.ref o0)])) _
  refine XS.iconst X5.here hx rfl (hb hby d3_84) ?_
  show Steps p.tables e below (T5.setTop (mkF m 85 #[.val (.ref o0), s1, s2, s3] [(.int (2 : Int32)), (.int (16 : Int32)), (.ref wA), (.ref o0)])) _
  refine XS.aloadN X5.here hx rfl (hb hby d3_85) rfl rfl ?_
  show Steps p.tables e below (T5.setTop (mkF m 86 #[.val (.ref o0), s1, s2, s3] [(.ref o0), (.int (2 : Int32)), (.int (16 : Int32)), (.ref wA), (.ref o0)])) _
  refine st7 _ ?_
  show Steps p.tables e below (T7.setTop (mkF m 89 #[.val (.ref o0), s1, s2, s3] [(.int (Int32.ofNat 0)), (.int (2 : Int32)), (.int (16 : Int32)), (.ref wA), (.ref o0)])) _
  refine XS.imul X7.here hx rfl (hb hby d3_89) rfl ?_
  show Steps p.tables e below (T7.setTop (mkF m 90 #[.val (.ref o0), s1, s2, s3] [(.int ((2 : Int32) * (Int32.ofNat 0))), (.int (16 : Int32)), (.ref wA), (.ref o0)])) _
  refine st8 _ ?_
  show Steps p.tables e below (T8.setTop (mkF m 93 #[.val (.ref o0), s1, s2, s3] [(.int (Int32.ofNat 16)), (.ref wA), (.ref o0)])) _
  refine st9 _ ?_
  show Steps p.tables e below (T9.setTop (mkF m 96 #[.val (.ref o0), s1, s2, s3] [(.ref b9), (.ref o0)])) _
  refine st10 _ ?_
  exact kt
theorem d3_99 : decode prog_60_method_2_code 99 = .ok (.aload_n 0, 1) := by decide +kernel
theorem d3_100 : decode prog_60_method_2_code 100 = .ok (.aload_n 0, 1) := by decide +kernel
theorem d3_101 : decode prog_60_method_2_code 101 = .ok (.getfield 19, 3) := by decide +kernel
theorem d3_104 : decode prog_60_method_2_code 104 = .ok (.aload_n 0, 1) := by decide +kernel
theorem d3_105 : decode prog_60_method_2_code 105 = .ok (.getfield 16, 3) := by decide +kernel
theorem d3_108 : decode prog_60_method_2_code 108 = .ok (.arraylength, 1) := by decide +kernel
theorem d3_109 : decode prog_60_method_2_code 109 = .ok (.invokestatic 28, 3) := by decide +kernel
theorem d3_112 : decode prog_60_method_2_code 112 = .ok (.putfield 19, 3) := by decide +kernel
set_option maxRecDepth 65536 in
set_option maxHeartbeats 40000000 in
theorem tn3_99_115 {p : Program} {l : Launch} {e : Env} {s : State} {m : MethodId} {args : Array Value} {below : List Frame} {meth : Method} {c : Code} {T0 : State} {locs : List Loc} {Z : State} {a0 : Array Value} {h0 : Heap} {n0 : Nat} (o0 : Addr) (s1 : Slot) (s2 : Slot) (s3 : Slot) (cl_w6 : Cell) (fA lA wA xA : Addr) (P Q M N n : Nat) (F G V X : Nat → Int32)
    (X0 : Stand p l e ({ frames := 2, cells := 4, slots := 92, locals := 33 } : Room) s m args below meth c T0 locs 3 76) (hx : p.tables.exec = Jvm.exec) (hZ : Z.Warmed39 s.vm) (hw : ∀ d ∈ tables_1, d.before a0 Z = true) (hby : c.code = prog_60_method_2_code) (hml : c.maxLocals = 4) (hown : s.vm.findClass "com/example/redress/redress/definition/Waiters" = some m.cls) (e0 : T0.heap = h0) (N0 : Fr n0 locs) (Z0 : n0 ≤ h0.size) (F_nexts_o0 : Fld Z h0 o0 "com/example/redress/redress/definition/Waiters" "nexts" "[I" (.ref xA)) (F_waiters_o0 : Fld Z h0 o0 "com/example/redress/redress/definition/Waiters" "waiters" "[I" (.ref wA)) (Ar_w6 : Arr Z h0 wA cl_w6 .int) (S_w6 : cl_w6.slots.size = (Int32.ofNat M).toNatClampNeg) (N_w6 : ¬ (Int32.ofNat M) < 0) (E_o0 : Exa Z h0 o0 "com/example/redress/redress/definition/Waiters") (g_o0 : n0 ≤ o0) (S : own_W Z n0 h0 o0 fA lA wA xA P Q M N n F G V X) (hlt : N < M) (hcap : M ≤ 16) :
    ∃ (b8 : Addr) (T' : State) (h' : Heap) (locs' : List Loc), Stand p l e ({ frames := 2, cells := 4, slots := 92, locals := 33 } : Room) s m args below meth c T' locs' 4 92 ∧ T'.heap = h' ∧ Fr n0 locs' ∧ n0 ≤ h'.size ∧ (own_W Z n0 h' o0 fA lA wA b8 P Q M M n F G V (fun j => if j < N then X j else 0)) ∧
      ∀ target, Steps p.tables e below (T'.setTop (mkF m 115 #[.val (.ref o0), s1, s2, s3] [])) target → Steps p.tables e below (T0.setTop (mkF m 99 #[.val (.ref o0), s1, s2, s3] [])) target := by
  obtain ⟨T5, X5, e5, st5⟩ := getF X0 hx hZ hown (host := "") (Or.inl (hw _ (List.mem_of_getElem? (i := 16) rfl))) Via.refl e0 F_nexts_o0 (g := (mkF m 101 #[.val (.ref o0), s1, s2, s3] [(.ref o0), (.ref o0)])) rfl rfl (hb hby d3_101)
  obtain ⟨T7, X7, e7, st7⟩ := getF X5 hx hZ hown (host := "") (Or.inl (hw _ (List.mem_of_getElem? (i := 14) rfl))) Via.refl e5 F_waiters_o0 (g := (mkF m 105 #[.val (.ref o0), s1, s2, s3] [(.ref o0), (.ref xA), (.ref o0)])) rfl rfl (hb hby d3_105)
  obtain ⟨_, _, ⟨T8, L8, k8, n8⟩, -, X8, ⟨Lc8, hQ8, l8, y8, z8⟩, st8⟩ := Jvm.LawKit.callS X7 hx (y := (⟨"java/util/Arrays", "copyOf", "([II)[I"⟩ : MethodName)) hown (mvT hZ (hw _ (List.mem_of_getElem? (i := 27) rfl))) (mvT hZ (hw _ (List.mem_of_getElem? (i := 28) rfl))) (mvT hZ (hw _ (List.mem_of_getElem? (i := 29) rfl))) (mvT hZ (hw _ (List.mem_of_getElem? (i := 30) rfl))) (by decide) (backOf (W := 1) (rm5b l Z a0 hw [] xA N M hlt hcap (fun j => .int (X j)) h0 n0 Z0 S.2.2.2.2.1.2.2.2) hZ (hw _ (List.mem_of_getElem? (i := 30) rfl)) (hw _ (List.mem_of_getElem? (i := 29) rfl)) (by decide) (by decide)) (g := (mkF m 109 #[.val (.ref o0), s1, s2, s3] [(.int (Int32.ofNat M)), (.ref xA), (.ref o0)])) rfl (by rw [hml]; rfl) (argsL := [(.ref xA), (.int (Int32.ofNat M))]) (rest := [(.ref o0)]) (lenOf pd_3_3 rfl) rfl (by show 2 * 0 + _ ≤ _; exact Nat.le_of_eq rfl) (hb hby d3_109) (fun _ _ => ⟨rfl, e7, (Nat.le_of_ble_eq_true rfl), (Nat.le_of_ble_eq_true rfl)⟩)
  dsimp only [Pt.U, Pt.locs, Pt.cells, Pt.slots] at X8 l8 y8 z8 st8 hQ8
  subst l8 y8 z8
  obtain ⟨b8, rfl, N8q, K8, sb8, V8⟩ := hQ8
  have KT1 : Keep h0 T8.heap [o0] := (Keep.refl h0 [o0]).trans K8 all0
  have N8 := Fr.app N0 N8q
  obtain ⟨T9, h9, X9, e9, W9, st9⟩ := putF X8 hx hZ hown (host := "") (Or.inl (hw _ (List.mem_of_getElem? (i := 16) rfl))) Via.refl rfl (F_nexts_o0.keep K8 nin0) (E_o0.keep K8) (Or.inl (hw _ (List.mem_of_getElem? (i := 17) rfl))) (hw _ (List.mem_of_getElem? (i := 1) rfl)) (ty := (.array .int)) (by decide) rfl rfl (g := (mkF m 112 #[.val (.ref o0), s1, s2, s3] [(.ref b8), (.ref o0)])) rfl rfl (hb hby d3_112)
  have Fw9 := (F_nexts_o0.keep K8 nin0).same W9
  have K9 : Keep h0 h9 [o0] := KT1.wr W9 (Or.inl (List.mem_of_getElem? (i := 0) rfl))
  have N9 := Fr.snoc X9 N8 g_o0
  refine ⟨b8, T9, _, _, X9, e9, N9, (Nat.le_trans Z0 K9.1), S.set3 hw K8 V8.ifI sb8 Z0 W9, fun target kt => ?_⟩
  show Steps p.tables e below (T0.setTop (mkF m 99 #[.val (.ref o0), s1, s2, s3] [])) _
  refine XS.aloadN X0.here hx rfl (hb hby d3_99) rfl rfl ?_
  show Steps p.tables e below (T0.setTop (mkF m 100 #[.val (.ref o0), s1, s2, s3] [(.ref o0)])) _
  refine XS.aloadN X0.here hx rfl (hb hby d3_100) rfl rfl ?_
  show Steps p.tables e below (T0.setTop (mkF m 101 #[.val (.ref o0), s1, s2, s3] [(.ref o0), (.ref o0)])) _
  refine st5 _ ?_
  show Steps p.tables e below (T5.setTop (mkF m 104 #[.val (.ref o0), s1, s2, s3] [(.ref xA), (.ref o0)])) _
  refine XS.aloadN X5.here hx rfl (hb hby d3_104) rfl rfl ?_
  show Steps p.tables e below (T5.setTop (mkF m 105 #[.val (.ref o0), s1, s2, s3] [(.ref o0), (.ref xA), (.ref o0)])) _
  refine st7 _ ?_
  show Steps p.tables e below (T7.setTop (mkF m 108 #[.val (.ref o0), s1, s2, s3] [(.ref wA), (.ref xA), (.ref o0)])) _
  refine X7.arraylength hx (by rw [e7]; exact Ar_w6.1) (State.isArrayOf_alike hZ.alike Ar_w6.2.1) (g := (mkF m 108 #[.val (.ref o0), s1, s2, s3] [(.ref wA), (.ref xA), (.ref o0)])) rfl rfl (hb hby d3_108) _ ?_
  rw [len_of S_w6 N_w6]
  show Steps p.tables e below (T7.setTop (mkF m 109 #[.val (.ref o0), s1, s2, s3] [(.int (Int32.ofNat M)), (.ref xA), (.ref o0)])) _
  refine st8 _ ?_
  show Steps p.tables e below (T8.setTop (mkF m 112 #[.val (.ref o0), s1, s2, s3] [(.ref b8), (.ref o0)])) _
  refine st9 _ ?_
  exact kt
theorem d3_115 : decode prog_60_method_2_code 115 = .ok (.aload_n 0, 1) := by decide +kernel
theorem d3_116 : decode prog_60_method_2_code 116 = .ok (.dup, 1) := by decide +kernel
theorem d3_117 : decode prog_60_method_2_code 117 = .ok (.getfield 38, 3) := by decide +kernel
theorem d3_120 : decode prog_60_method_2_code 120 = .ok (.dup_x1, 1) := by decide +kernel
theorem d3_121 : decode prog_60_method_2_code 121 = .ok (.iconst 1, 1) := by decide +kernel
theorem d3_122 : decode prog_60_method_2_code 122 = .ok (.iadd, 1) := by decide +kernel
theorem d3_123 : decode prog_60_method_2_code 123 = .ok (.putfield 38, 3) := by decide +kernel
theorem d3_126 : decode prog_60_method_2_code 126 = .ok (.istore_n 3, 1) := by decide +kernel
theorem os3_126 {z0 : Value} {s1 : Slot} {s2 : Slot} {s3 : Slot} {v : Int32} (h : One s3) : storeLocals #[.val z0, s1, s2, s3] 3 (.int v) = some #[.val z0, s1, s2, .val (.int v)] := by
  rcases h with rfl | ⟨w, rfl, hw⟩
  · rfl
  · cases w <;> first | rfl | (simp [Value.category] at hw)
set_option maxRecDepth 65536 in
set_option maxHeartbeats 40000000 in
theorem tn3_115_127 {p : Program} {l : Launch} {e : Env} {R : Room} {s : State} {m : MethodId} {args : Array Value} {below : List Frame} {meth : Method} {c : Code} {T0 : State} {locs : List Loc} {cells slots : Nat} {Z : State} {a0 : Array Value} {h0 : Heap} {n0 : Nat} (o0 : Addr) (s1 : Slot) (s2 : Slot) (s3 : Slot) (fA lA wA xA : Addr) (P Q M N n : Nat) (F G V X : Nat → Int32)
    (X0 : Stand p l e R s m args below meth c T0 locs cells slots) (hx : p.tables.exec = Jvm.exec) (hZ : Z.Warmed39 s.vm) (hw : ∀ d ∈ tables_1, d.before a0 Z = true) (hby : c.code = prog_60_method_2_code) (hml : c.maxLocals = 4) (hown : s.vm.findClass "com/example/redress/redress/definition/Waiters" = some m.cls) (e0 : T0.heap = h0) (N0 : Fr n0 locs) (Z0 : n0 ≤ h0.size) (F_entries_o0 : Fld Z h0 o0 "com/example/redress/redress/definition/Waiters" "entries" "I" (.int (Int32.ofNat n))) (E_o0 : Exa Z h0 o0 "com/example/redress/redress/definition/Waiters") (g_o0 : n0 ≤ o0) (hs3 : One s3) (S : own_W Z n0 h0 o0 fA lA wA xA P Q M N n F G V X) :
    ∃ (T' : State) (h' : Heap) (locs' : List Loc), Stand p l e R s m args below meth c T' locs' cells slots ∧ T'.heap = h' ∧ Fr n0 locs' ∧ n0 ≤ h'.size ∧ (own_W Z n0 h' o0 fA lA wA xA P Q M N (n + 1) F G V X) ∧
      ∀ target, Steps p.tables e below (T'.setTop (mkF m 127 #[.val (.ref o0), s1, s2, .val (.int (Int32.ofNat n))] [])) target → Steps p.tables e below (T0.setTop (mkF m 115 #[.val (.ref o0), s1, s2, s3] [])) target := by
  obtain ⟨T5, X5, e5, st5⟩ := getF X0 hx hZ hown (host := "") (Or.inl (hw _ (List.mem_of_getElem? (i := 44) rfl))) Via.refl e0 F_entries_o0 (g := (mkF m 117 #[.val (.ref o0), s1, s2, s3] [(.ref o0), (.ref o0)])) rfl rfl (hb hby d3_117)
  obtain ⟨T6, h6, X6, e6, W6, st6⟩ := putF X5 hx hZ hown (host := "") (Or.inl (hw _ (List.mem_of_getElem? (i := 44) rfl))) Via.refl e5 F_entries_o0 E_o0 (Or.inl (hw _ (List.mem_of_getElem? (i := 45) rfl))) (hw _ (List.mem_of_getElem? (i := 1) rfl)) (ty := .int) (by decide) rfl rfl (g := (mkF m 123 #[.val (.ref o0), s1, s2, s3] [(.int ((Int32.ofNat n) + (1 : Int32))), (.ref o0), (.int (Int32.ofNat n))])) rfl rfl (hb hby d3_123)
  have Fw6 := F_entries_o0.same W6
  have K6 : Keep h0 h6 [o0] := (Keep.refl h0 [o0]).wr W6 (Or.inl (List.mem_of_getElem? (i := 0) rfl))
  have N6 := Fr.snoc X6 N0 g_o0
  refine ⟨T6, _, _, X6, e6, N6, (Nat.le_trans Z0 K6.1), S.cnt hw W6, fun target kt => ?_⟩
  show Steps p.tables e below (T0.setTop (mkF m 115 #[.val (.ref o0), s1, s2, s3] [])) _
  refine XS.aloadN X0.here hx rfl (hb hby d3_115) rfl rfl ?_
  show Steps p.tables e below (T0.setTop (mkF m 116 #[.val (.ref o0), s1, s2, s3] [(.ref o0)])) _
  refine XS.dup X0.here hx rfl (hb hby d3_116) rfl rfl ?_
  show Steps p.tables e below (T0.setTop (mkF m 117 #[.val (.ref o0), s1, s2, s3] [(.ref o0), (.ref o0)])) _
  refine st5 _ ?_
  show Steps p.tables e below (T5.setTop (mkF m 120 #[.val (.ref o0), s1, s2, s3] [(.int (Int32.ofNat n)), (.ref o0)])) _
  refine XS.dupX1 X5.here hx rfl (hb hby d3_120) rfl rfl rfl ?_
  show Steps p.tables e below (T5.setTop (mkF m 121 #[.val (.ref o0), s1, s2, s3] [(.int (Int32.ofNat n)), (.ref o0), (.int (Int32.ofNat n))])) _
  refine XS.iconst X5.here hx rfl (hb hby d3_121) ?_
  show Steps p.tables e below (T5.setTop (mkF m 122 #[.val (.ref o0), s1, s2, s3] [(.int (1 : Int32)), (.int (Int32.ofNat n)), (.ref o0), (.int (Int32.ofNat n))])) _
  refine XS.iadd X5.here hx rfl (hb hby d3_122) rfl ?_
  show Steps p.tables e below (T5.setTop (mkF m 123 #[.val (.ref o0), s1, s2, s3] [(.int ((Int32.ofNat n) + (1 : Int32))), (.ref o0), (.int (Int32.ofNat n))])) _
  refine st6 _ ?_
  show Steps p.tables e below (T6.setTop (mkF m 126 #[.val (.ref o0), s1, s2, s3] [(.int (Int32.ofNat n))])) _
  refine XS.istoreN X6.here hx rfl (hb hby d3_126) rfl (l' := #[.val (.ref o0), s1, s2, .val (.int (Int32.ofNat n))]) (os3_126 hs3) ?_
  exact kt
theorem d3_127 : decode prog_60_method_2_code 127 = .ok (.aload_n 0, 1) := by decide +kernel
theorem d3_128 : decode prog_60_method_2_code 128 = .ok (.getfield 16, 3) := by decide +kernel
theorem d3_131 : decode prog_60_method_2_code 131 = .ok (.iload_n 3, 1) := by decide +kernel
theorem d3_132 : decode prog_60_method_2_code 132 = .ok (.iload_n 2, 1) := by decide +kernel
theorem d3_133 : decode prog_60_method_2_code 133 = .ok (.iastore, 1) := by decide +kernel
theorem d3_134 : decode prog_60_method_2_code 134 = .ok (.aload_n 0, 1) := by decide +kernel
theorem d3_135 : decode prog_60_method_2_code 135 = .ok (.getfield 19, 3) := by decide +kernel
theorem d3_138 : decode prog_60_method_2_code 138 = .ok (.iload_n 3, 1) := by decide +kernel
theorem d3_139 : decode prog_60_method_2_code 139 = .ok (.iconst (-1), 1) := by decide +kernel
theorem d3_140 : decode prog_60_method_2_code 140 = .ok (.iastore, 1) := by decide +kernel
set_option maxRecDepth 65536 in
set_option maxHeartbeats 40000000 in
theorem tn3_127_141 {p : Program} {l : Launch} {e : Env} {R : Room} {s : State} {m : MethodId} {args : Array Value} {below : List Frame} {meth : Method} {c : Code} {T0 : State} {locs : List Loc} {cells slots : Nat} {Z : State} {a0 : Array Value} {h0 : Heap} {n0 : Nat} (o0 : Addr) (s1 : Slot) (i2 : Int32) (cl_w4 : Cell) (cl_w7 : Cell) (fA lA wA xA : Addr) (P Q M N n : Nat) (F G V X : Nat → Int32) (k : Nat)
    (X0 : Stand p l e R s m args below meth c T0 locs cells slots) (hx : p.tables.exec = Jvm.exec) (hZ : Z.Warmed39 s.vm) (hw : ∀ d ∈ tables_1, d.before a0 Z = true) (hby : c.code = prog_60_method_2_code) (hml : c.maxLocals = 4) (hown : s.vm.findClass "com/example/redress/redress/definition/Waiters" = some m.cls) (e0 : T0.heap = h0) (N0 : Fr n0 locs) (Z0 : n0 ≤ h0.size) (F_waiters_o0 : Fld Z h0 o0 "com/example/redress/redress/definition/Waiters" "waiters" "[I" (.ref wA)) (Ar_w4 : Arr Z h0 wA cl_w4 .int) (hin133 : ¬ ((Int32.ofNat k) < 0 ∨ cl_w4.slots.size ≤ ((Int32.ofNat k)).toNatClampNeg)) (g_w4 : n0 ≤ wA) (F_nexts_o0 : Fld Z h0 o0 "com/example/redress/redress/definition/Waiters" "nexts" "[I" (.ref xA)) (Ar_w7 : Arr Z h0 xA cl_w7 .int) (hin140 : ¬ ((Int32.ofNat k) < 0 ∨ cl_w7.slots.size ≤ ((Int32.ofNat k)).toNatClampNeg)) (g_w7 : n0 ≤ xA) (S : own_W Z n0 h0 o0 fA lA wA xA P Q M N n F G V X) (hkM : k < M) (hkN : k < N) (hk : k < 1000) :
    ∃ (T' : State) (h' : Heap) (locs' : List Loc), Stand p l e R s m args below meth c T' locs' cells slots ∧ T'.heap = h' ∧ Fr n0 locs' ∧ n0 ≤ h'.size ∧ (own_W Z n0 h' o0 fA lA wA xA P Q M N n F G (own_upd V k i2) (own_upd X k (-1))) ∧
      ∀ target, Steps p.tables e below (T'.setTop (mkF m 141 #[.val (.ref o0), s1, .val (.int i2), .val (.int (Int32.ofNat k))] [])) target → Steps p.tables e below (T0.setTop (mkF m 127 #[.val (.ref o0), s1, .val (.int i2), .val (.int (Int32.ofNat k))] [])) target := by
  obtain ⟨T5, X5, e5, st5⟩ := getF X0 hx hZ hown (host := "") (Or.inl (hw _ (List.mem_of_getElem? (i := 14) rfl))) Via.refl e0 F_waiters_o0 (g := (mkF m 128 #[.val (.ref o0), s1, .val (.int i2), .val (.int (Int32.ofNat k))] [(.ref o0)])) rfl rfl (hb hby d3_128)
  obtain ⟨T6, h6, X6, e6, W6, st6⟩ := stI X5 hx hZ e5 Ar_w4 (j := (Int32.ofNat k)) hin133 (g := (mkF m 133 #[.val (.ref o0), s1, .val (.int i2), .val (.int (Int32.ofNat k))] [(.int i2), (.int (Int32.ofNat k)), (.ref wA)])) rfl rfl (hb hby d3_133)
  have N6 := Fr.snoc X6 N0 g_w4
  have K6 : Keep h0 h6 [wA, xA] := (Keep.refl h0 [wA, xA]).wr W6 (Or.inl (List.mem_of_getElem? (i := 0) rfl))
  obtain ⟨T8, X8, e8, st8⟩ := getF X6 hx hZ hown (host := "") (Or.inl (hw _ (List.mem_of_getElem? (i := 16) rfl))) Via.refl e6 (F_nexts_o0.other W6 (Or.inl (own_neA S.1 (hw _ (List.mem_of_getElem? (i := 1) rfl)) S.2.2.2.2.1.2.2.1))) (g := (mkF m 135 #[.val (.ref o0), s1, .val (.int i2), .val (.int (Int32.ofNat k))] [(.ref o0)])) rfl rfl (hb hby d3_135)
  obtain ⟨T9, h9, X9, e9, W9, st9⟩ := stI X8 hx hZ e8 (Ar_w7.other W6 S.2.2.2.2.2.2.2.2.2.2.2.symm) (j := (Int32.ofNat k)) hin140 (g := (mkF m 140 #[.val (.ref o0), s1, .val (.int i2), .val (.int (Int32.ofNat k))] [(.int (-1 : Int32)), (.int (Int32.ofNat k)), (.ref xA)])) rfl rfl (hb hby d3_140)
  have N9 := Fr.snoc X9 N6 g_w7
  have K9 : Keep h0 h9 [wA, xA] := K6.wr W9 (Or.inl (List.mem_of_getElem? (i := 1) rfl))
  refine ⟨T9, _, _, X9, e9, N9, (Nat.le_trans Z0 K9.1), (by rw [own_nc (by omega)] at W6 W9; have S1 := S.arr2 hw (Keep.of_wr W6) (S.2.2.2.2.1.2.2.1.setI W6 hkM); exact S1.arr3 hw (Keep.of_wr W9) (S1.2.2.2.2.1.2.2.2.setI W9 hkN)), fun target kt => ?_⟩
  show Steps p.tables e below (T0.setTop (mkF m 127 #[.val (.ref o0), s1, .val (.int i2), .val (.int (Int32.ofNat k))] [])) _
  refine XS.aloadN X0.here hx rfl (hb hby d3_127) rfl rfl ?_
  show Steps p.tables e below (T0.setTop (mkF m 128 #[.val (.ref o0), s1, .val (.int i2), .val (.int (Int32.ofNat k))] [(.ref o0)])) _
  refine st5 _ ?_
  show Steps p.tables e below (T5.setTop (mkF m 131 #[.val (.ref o0), s1, .val (.int i2), .val (.int (Int32.ofNat k))] [(.ref wA)])) _
  refine XS.iloadN X5.here hx rfl (hb hby d3_131) rfl ?_
  show Steps p.tables e below (T5.setTop (mkF m 132 #[.val (.ref o0), s1, .val (.int i2), .val (.int (Int32.ofNat k))] [(.int (Int32.ofNat k)), (.ref wA)])) _
  refine XS.iloadN X5.here hx rfl (hb hby d3_132) rfl ?_
  show Steps p.tables e below (T5.setTop (mkF m 133 #[.val (.ref o0), s1, .val (.int i2), .val (.int (Int32.ofNat k))] [(.int i2), (.int (Int32.ofNat k)), (.ref wA)])) _
  refine st6 _ ?_
  show Steps p.tables e below (T6.setTop (mkF m 134 #[.val (.ref o0), s1, .val (.int i2), .val (.int (Int32.ofNat k))] [])) _
  refine XS.aloadN X6.here hx rfl (hb hby d3_134) rfl rfl ?_
  show Steps p.tables e below (T6.setTop (mkF m 135 #[.val (.ref o0), s1, .val (.int i2), .val (.int (Int32.ofNat k))] [(.ref o0)])) _
  refine st8 _ ?_
  show Steps p.tables e below (T8.setTop (mkF m 138 #[.val (.ref o0), s1, .val (.int i2), .val (.int (Int32.ofNat k))] [(.ref xA)])) _
  refine XS.iloadN X8.here hx rfl (hb hby d3_138) rfl ?_
  show Steps p.tables e below (T8.setTop (mkF m 139 #[.val (.ref o0), s1, .val (.int i2), .val (.int (Int32.ofNat k))] [(.int (Int32.ofNat k)), (.ref xA)])) _
  refine XS.iconst X8.here hx rfl (hb hby d3_139) ?_
  show Steps p.tables e below (T8.setTop (mkF m 140 #[.val (.ref o0), s1, .val (.int i2), .val (.int (Int32.ofNat k))] [(.int (-1 : Int32)), (.int (Int32.ofNat k)), (.ref xA)])) _
  refine st9 _ ?_
  exact kt
theorem d3_141 : decode prog_60_method_2_code 141 = .ok (.aload_n 0, 1) := by decide +kernel
theorem d3_142 : decode prog_60_method_2_code 142 = .ok (.getfield 7, 3) := by decide +kernel
theorem d3_145 : decode prog_60_method_2_code 145 = .ok (.iload_n 1, 1) := by decide +kernel
theorem d3_146 : decode prog_60_method_2_code 146 = .ok (.iaload, 1) := by decide +kernel
theorem d3_147 : decode prog_60_method_2_code 147 = .ok (.iconst (-1), 1) := by decide +kernel
theorem d3_148 : decode prog_60_method_2_code 148 = .ok (.if_icmp .ne 13, 3) := by decide +kernel
theorem d3_151 : decode prog_60_method_2_code 151 = .ok (.aload_n 0, 1) := by decide +kernel
theorem d3_152 : decode prog_60_method_2_code 152 = .ok (.getfield 7, 3) := by decide +kernel
theorem d3_155 : decode prog_60_method_2_code 155 = .ok (.iload_n 1, 1) := by decide +kernel
theorem d3_156 : decode prog_60_method_2_code 156 = .ok (.iload_n 3, 1) := by decide +kernel
theorem d3_157 : decode prog_60_method_2_code 157 = .ok (.iastore, 1) := by decide +kernel
theorem d3_158 : decode prog_60_method_2_code 158 = .ok (.goto 15, 3) := by decide +kernel
set_option maxRecDepth 65536 in
set_option maxHeartbeats 40000000 in
theorem own_a141 {p : Program} {l : Launch} {e : Env} {R : Room} {s : State} {m : MethodId} {args : Array Value} {below : List Frame} {meth : Method} {c : Code} {T0 : State} {locs : List Loc} {cells slots : Nat} {Z : State} {a0 : Array Value} {h0 : Heap} {n0 : Nat} (o0 : Addr) (s2 : Slot) (cl_w4 : Cell) (fA lA wA xA : Addr) (P Q M N n : Nat) (F G V X : Nat → Int32) (k pp : Nat)
    (X0 : Stand p l e R s m args below meth c T0 locs cells slots) (hx : p.tables.exec = Jvm.exec) (hZ : Z.Warmed39 s.vm) (hw : ∀ d ∈ tables_1, d.before a0 Z = true) (hby : c.code = prog_60_method_2_code) (hml : c.maxLocals = 4) (hown : s.vm.findClass "com/example/redress/redress/definition/Waiters" = some m.cls) (e0 : T0.heap = h0) (N0 : Fr n0 locs) (Z0 : n0 ≤ h0.size) (F_firsts_o0 : Fld Z h0 o0 "com/example/redress/redress/definition/Waiters" "firsts" "[I" (.ref fA)) (Ar_w4 : Arr Z h0 fA cl_w4 .int) (hin146 : ¬ ((Int32.ofNat pp) < 0 ∨ cl_w4.slots.size ≤ ((Int32.ofNat pp)).toNatClampNeg)) (hat146 : cl_w4.slots[((Int32.ofNat pp)).toNatClampNeg]? = some (.int (F pp))) (hin157 : ¬ ((Int32.ofNat pp) < 0 ∨ cl_w4.slots.size ≤ ((Int32.ofNat pp)).toNatClampNeg)) (g_w4 : n0 ≤ fA) (hc148 : (F pp) = (-1 : Int32)) (S : own_W Z n0 h0 o0 fA lA wA xA P Q M N n F G V X) (hpP : pp < P) (hp : pp < 1000) :
    ∃ (T' : State) (h' : Heap) (locs' : List Loc), Stand p l e R s m args below meth c T' locs' cells slots ∧ T'.heap = h' ∧ Fr n0 locs' ∧ n0 ≤ h'.size ∧ (own_W Z n0 h' o0 fA lA wA xA P Q M N n (own_upd F pp (Int32.ofNat k)) G V X) ∧
      ∀ target, Steps p.tables e below (T'.setTop (mkF m 173 #[.val (.ref o0), .val (.int (Int32.ofNat pp)), s2, .val (.int (Int32.ofNat k))] [])) target → Steps p.tables e below (T0.setTop (mkF m 141 #[.val (.ref o0), .val (.int (Int32.ofNat pp)), s2, .val (.int (Int32.ofNat k))] [])) target := by
  obtain ⟨T5, X5, e5, st5⟩ := getF X0 hx hZ hown (host := "") (Or.inl (hw _ (List.mem_of_getElem? (i := 10) rfl))) Via.refl e0 F_firsts_o0 (g := (mkF m 142 #[.val (.ref o0), .val (.int (Int32.ofNat pp)), s2, .val (.int (Int32.ofNat k))] [(.ref o0)])) rfl rfl (hb hby d3_142)
  obtain ⟨T7, X7, e7, st7⟩ := getF X5 hx hZ hown (host := "") (Or.inl (hw _ (List.mem_of_getElem? (i := 10) rfl))) Via.refl e5 F_firsts_o0 (g := (mkF m 152 #[.val (.ref o0), .val (.int (Int32.ofNat pp)), s2, .val (.int (Int32.ofNat k))] [(.ref o0)])) rfl rfl (hb hby d3_152)
  obtain ⟨T8, h8, X8, e8, W8, st8⟩ := stI X7 hx hZ e7 Ar_w4 (j := (Int32.ofNat pp)) hin157 (g := (mkF m 157 #[.val (.ref o0), .val (.int (Int32.ofNat pp)), s2, .val (.int (Int32.ofNat k))] [(.int (Int32.ofNat k)), (.int (Int32.ofNat pp)), (.ref fA)])) rfl rfl (hb hby d3_157)
  have N8 := Fr.snoc X8 N0 g_w4
  have K8 : Keep h0 h8 [fA] := (Keep.refl h0 [fA]).wr W8 (Or.inl (List.mem_of_getElem? (i := 0) rfl))
  refine ⟨T8, _, _, X8, e8, N8, (Nat.le_trans Z0 K8.1), (by rw [own_nc (by omega)] at W8; exact S.arr0 hw (Keep.of_wr W8) (S.2.2.2.2.1.1.setI W8 hpP)), fun target kt => ?_⟩
  show Steps p.tables e below (T0.setTop (mkF m 141 #[.val (.ref o0), .val (.int (Int32.ofNat pp)), s2, .val (.int (Int32.ofNat k))] [])) _
  refine XS.aloadN X0.here hx rfl (hb hby d3_141) rfl rfl ?_
  show Steps p.tables e below (T0.setTop (mkF m 142 #[.val (.ref o0), .val (.int (Int32.ofNat pp)), s2, .val (.int (Int32.ofNat k))] [(.ref o0)])) _
  refine st5 _ ?_
  show Steps p.tables e below (T5.setTop (mkF m 145 #[.val (.ref o0), .val (.int (Int32.ofNat pp)), s2, .val (.int (Int32.ofNat k))] [(.ref fA)])) _
  refine XS.iloadN X5.here hx rfl (hb hby d3_145) rfl ?_
  show Steps p.tables e below (T5.setTop (mkF m 146 #[.val (.ref o0), .val (.int (Int32.ofNat pp)), s2, .val (.int (Int32.ofNat k))] [(.int (Int32.ofNat pp)), (.ref fA)])) _
  refine X5.iaload hx (j := (Int32.ofNat pp)) (v := (.int (F pp))) (by rw [e5]; exact Ar_w4.1) (State.isArrayOf_alike hZ.alike Ar_w4.2.1) Ar_w4.2.2 hin146 hat146 (g := (mkF m 146 #[.val (.ref o0), .val (.int (Int32.ofNat pp)), s2, .val (.int (Int32.ofNat k))] [(.int (Int32.ofNat pp)), (.ref fA)])) rfl rfl (hb hby d3_146) _ ?_
  show Steps p.tables e below (T5.setTop (mkF m 147 #[.val (.ref o0), .val (.int (Int32.ofNat pp)), s2, .val (.int (Int32.ofNat k))] [(.int (F pp))])) _
  refine XS.iconst X5.here hx rfl (hb hby d3_147) ?_
  show Steps p.tables e below (T5.setTop (mkF m 148 #[.val (.ref o0), .val (.int (Int32.ofNat pp)), s2, .val (.int (Int32.ofNat k))] [(.int (-1 : Int32)), (.int (F pp))])) _
  refine XS.icmpNo X5.here hx rfl (hb hby d3_148) rfl (teq hc148).2 ?_
  show Steps p.tables e below (T5.setTop (mkF m 151 #[.val (.ref o0), .val (.int (Int32.ofNat pp)), s2, .val (.int (Int32.ofNat k))] [])) _
  refine XS.aloadN X5.here hx rfl (hb hby d3_151) rfl rfl ?_
  show Steps p.tables e below (T5.setTop (mkF m 152 #[.val (.ref o0), .val (.int (Int32.ofNat pp)), s2, .val (.int (Int32.ofNat k))] [(.ref o0)])) _
  refine st7 _ ?_
  show Steps p.tables e below (T7.setTop (mkF m 155 #[.val (.ref o0), .val (.int (Int32.ofNat pp)), s2, .val (.int (Int32.ofNat k))] [(.ref fA)])) _
  refine XS.iloadN X7.here hx rfl (hb hby d3_155) rfl ?_
  show Steps p.tables e below (T7.setTop (mkF m 156 #[.val (.ref o0), .val (.int (Int32.ofNat pp)), s2, .val (.int (Int32.ofNat k))] [(.int (Int32.ofNat pp)), (.ref fA)])) _
  refine XS.iloadN X7.here hx rfl (hb hby d3_156) rfl ?_
  show Steps p.tables e below (T7.setTop (mkF m 157 #[.val (.ref o0), .val (.int (Int32.ofNat pp)), s2, .val (.int (Int32.ofNat k))] [(.int (Int32.ofNat k)), (.int (Int32.ofNat pp)), (.ref fA)])) _
  refine st8 _ ?_
  show Steps p.tables e below (T8.setTop (mkF m 158 #[.val (.ref o0), .val (.int (Int32.ofNat pp)), s2, .val (.int (Int32.ofNat k))] [])) _
  refine XS.goto X8.here hx rfl (pc0 := 158) (pc' := 173) rfl (hb hby d3_158) (by decide) (by decide) ?_
  exact kt
theorem d3_161 : decode prog_60_method_2_code 161 = .ok (.aload_n 0, 1) := by decide +kernel
theorem d3_162 : decode prog_60_method_2_code 162 = .ok (.getfield 19, 3) := by decide +kernel
theorem d3_165 : decode prog_60_method_2_code 165 = .ok (.aload_n 0, 1) := by decide +kernel
theorem d3_166 : decode prog_60_method_2_code 166 = .ok (.getfield 13, 3) := by decide +kernel
theorem d3_169 : decode prog_60_method_2_code 169 = .ok (.iload_n 1, 1) := by decide +kernel
theorem d3_170 : decode prog_60_method_2_code 170 = .ok (.iaload, 1) := by decide +kernel
theorem d3_171 : decode prog_60_method_2_code 171 = .ok (.iload_n 3, 1) := by decide +kernel
theorem d3_172 : decode prog_60_method_2_code 172 = .ok (.iastore, 1) := by decide +kernel
set_option maxRecDepth 65536 in
set_option maxHeartbeats 40000000 in
theorem own_a141t {p : Program} {l : Launch} {e : Env} {R : Room} {s : State} {m : MethodId} {args : Array Value} {below : List Frame} {meth : Method} {c : Code} {T0 : State} {locs : List Loc} {cells slots : Nat} {Z : State} {a0 : Array Value} {h0 : Heap} {n0 : Nat} (o0 : Addr) (s2 : Slot) (cl_w4 : Cell) (cl_w9 : Cell) (cl_w7 : Cell) (fA lA wA xA : Addr) (P Q M N n : Nat) (F G V X : Nat → Int32) (k pp jj : Nat)
    (X0 : Stand p l e R s m args below meth c T0 locs cells slots) (hx : p.tables.exec = Jvm.exec) (hZ : Z.Warmed39 s.vm) (hw : ∀ d ∈ tables_1, d.before a0 Z = true) (hby : c.code = prog_60_method_2_code) (hml : c.maxLocals = 4) (hown : s.vm.findClass "com/example/redress/redress/definition/Waiters" = some m.cls) (e0 : T0.heap = h0) (N0 : Fr n0 locs) (Z0 : n0 ≤ h0.size) (F_firsts_o0 : Fld Z h0 o0 "com/example/redress/redress/definition/Waiters" "firsts" "[I" (.ref fA)) (Ar_w4 : Arr Z h0 fA cl_w4 .int) (hin146 : ¬ ((Int32.ofNat pp) < 0 ∨ cl_w4.slots.size ≤ ((Int32.ofNat pp)).toNatClampNeg)) (hat146 : cl_w4.slots[((Int32.ofNat pp)).toNatClampNeg]? = some (.int (F pp))) (F_nexts_o0 : Fld Z h0 o0 "com/example/redress/redress/definition/Waiters" "nexts" "[I" (.ref xA)) (F_lasts_o0 : Fld Z h0 o0 "com/example/redress/redress/definition/Waiters" "lasts" "[I" (.ref lA)) (Ar_w9 : Arr Z h0 lA cl_w9 .int) (hin170 : ¬ ((Int32.ofNat pp) < 0 ∨ cl_w9.slots.size ≤ ((Int32.ofNat pp)).toNatClampNeg)) (hat170 : cl_w9.slots[((Int32.ofNat pp)).toNatClampNeg]? = some (.int (Int32.ofNat jj))) (Ar_w7 : Arr Z h0 xA cl_w7 .int) (hin172 : ¬ ((Int32.ofNat jj) < 0 ∨ cl_w7.slots.size ≤ ((Int32.ofNat jj)).toNatClampNeg)) (g_w7 : n0 ≤ xA) (hc148 : ¬ ((F pp) = (-1 : Int32))) (S : own_W Z n0 h0 o0 fA lA wA xA P Q M N n F G V X) (hjN : jj < N) (hp : pp < 1000) (hj : jj < 1000) :
    ∃ (T' : State) (h' : Heap) (locs' : List Loc), Stand p l e R s m args below meth c T' locs' cells slots ∧ T'.heap = h' ∧ Fr n0 locs' ∧ n0 ≤ h'.size ∧ (own_W Z n0 h' o0 fA lA wA xA P Q M N n F G V (own_upd X jj (Int32.ofNat k))) ∧
      ∀ target, Steps p.tables e below (T'.setTop (mkF m 173 #[.val (.ref o0), .val (.int (Int32.ofNat pp)), s2, .val (.int (Int32.ofNat k))] [])) target → Steps p.tables e below (T0.setTop (mkF m 141 #[.val (.ref o0), .val (.int (Int32.ofNat pp)), s2, .val (.int (Int32.ofNat k))] [])) target := by
  obtain ⟨T5, X5, e5, st5⟩ := getF X0 hx hZ hown (host := "") (Or.inl (hw _ (List.mem_of_getElem? (i := 10) rfl))) Via.refl e0 F_firsts_o0 (g := (mkF m 142 #[.val (.ref o0), .val (.int (Int32.ofNat pp)), s2, .val (.int (Int32.ofNat k))] [(.ref o0)])) rfl rfl (hb hby d3_142)
  obtain ⟨T8, X8, e8, st8⟩ := getF X5 hx hZ hown (host := "") (Or.inl (hw _ (List.mem_of_getElem? (i := 16) rfl))) Via.refl e5 F_nexts_o0 (g := (mkF m 162 #[.val (.ref o0), .val (.int (Int32.ofNat pp)), s2, .val (.int (Int32.ofNat k))] [(.ref o0)])) rfl rfl (hb hby d3_162)
  obtain ⟨T10, X10, e10, st10⟩ := getF X8 hx hZ hown (host := "") (Or.inl (hw _ (List.mem_of_getElem? (i := 12) rfl))) Via.refl e8 F_lasts_o0 (g := (mkF m 166 #[.val (.ref o0), .val (.int (Int32.ofNat pp)), s2, .val (.int (Int32.ofNat k))] [(.ref o0), (.ref xA)])) rfl rfl (hb hby d3_166)
  obtain ⟨T12, h12, X12, e12, W12, st12⟩ := stI X10 hx hZ e10 Ar_w7 (j := (Int32.ofNat jj)) hin172 (g := (mkF m 172 #[.val (.ref o0), .val (.int (Int32.ofNat pp)), s2, .val (.int (Int32.ofNat k))] [(.int (Int32.ofNat k)), (.int (Int32.ofNat jj)), (.ref xA)])) rfl rfl (hb hby d3_172)
  have N12 := Fr.snoc X12 N0 g_w7
  have K12 : Keep h0 h12 [xA] := (Keep.refl h0 [xA]).wr W12 (Or.inl (List.mem_of_getElem? (i := 0) rfl))
  refine ⟨T12, _, _, X12, e12, N12, (Nat.le_trans Z0 K12.1), (by rw [own_nc (by omega)] at W12; exact S.arr3 hw (Keep.of_wr W12) (S.2.2.2.2.1.2.2.2.setI W12 hjN)), fun target kt => ?_⟩
  show Steps p.tables e below (T0.setTop (mkF m 141 #[.val (.ref o0), .val (.int (Int32.ofNat pp)), s2, .val (.int (Int32.ofNat k))] [])) _
  refine XS.aloadN X0.here hx rfl (hb hby d3_141) rfl rfl ?_
  show Steps p.tables e below (T0.setTop (mkF m 142 #[.val (.ref o0), .val (.int (Int32.ofNat pp)), s2, .val (.int (Int32.ofNat k))] [(.ref o0)])) _
  refine st5 _ ?_
  show Steps p.tables e below (T5.setTop (mkF m 145 #[.val (.ref o0), .val (.int (Int32.ofNat pp)), s2, .val (.int (Int32.ofNat k))] [(.ref fA)])) _
  refine XS.iloadN X5.here hx rfl (hb hby d3_145) rfl ?_
  show Steps p.tables e below (T5.setTop (mkF m 146 #[.val (.ref o0), .val (.int (Int32.ofNat pp)), s2, .val (.int (Int32.ofNat k))] [(.int (Int32.ofNat pp)), (.ref fA)])) _
  refine X5.iaload hx (j := (Int32.ofNat pp)) (v := (.int (F pp))) (by rw [e5]; exact Ar_w4.1) (State.isArrayOf_alike hZ.alike Ar_w4.2.1) Ar_w4.2.2 hin146 hat146 (g := (mkF m 146 #[.val (.ref o0), .val (.int (Int32.ofNat pp)), s2, .val (.int (Int32.ofNat k))] [(.int (Int32.ofNat pp)), (.ref fA)])) rfl rfl (hb hby d3_146) _ ?_
  show Steps p.tables e below (T5.setTop (mkF m 147 #[.val (.ref o0), .val (.int (Int32.ofNat pp)), s2, .val (.int (Int32.ofNat k))] [(.int (F pp))])) _
  refine XS.iconst X5.here hx rfl (hb hby d3_147) ?_
  show Steps p.tables e below (T5.setTop (mkF m 148 #[.val (.ref o0), .val (.int (Int32.ofNat pp)), s2, .val (.int (Int32.ofNat k))] [(.int (-1 : Int32)), (.int (F pp))])) _
  refine XS.icmpYes X5.here hx rfl (pc0 := 148) (pc' := 161) rfl (hb hby d3_148) rfl (feq hc148).2 (by decide) (by decide) ?_
  show Steps p.tables e below (T5.setTop (mkF m 161 #[.val (.ref o0), .val (.int (Int32.ofNat pp)), s2, .val (.int (Int32.ofNat k))] [])) _
  refine XS.aloadN X5.here hx rfl (hb hby d3_161) rfl rfl ?_
  show Steps p.tables e below (T5.setTop (mkF m 162 #[.val (.ref o0), .val (.int (Int32.ofNat pp)), s2, .val (.int (Int32.ofNat k))] [(.ref o0)])) _
  refine st8 _ ?_
  show Steps p.tables e below (T8.setTop (mkF m 165 #[.val (.ref o0), .val (.int (Int32.ofNat pp)), s2, .val (.int (Int32.ofNat k))] [(.ref xA)])) _
  refine XS.aloadN X8.here hx rfl (hb hby d3_165) rfl rfl ?_
  show Steps p.tables e below (T8.setTop (mkF m 166 #[.val (.ref o0), .val (.int (Int32.ofNat pp)), s2, .val (.int (Int32.ofNat k))] [(.ref o0), (.ref xA)])) _
  refine st10 _ ?_
  show Steps p.tables e below (T10.setTop (mkF m 169 #[.val (.ref o0), .val (.int (Int32.ofNat pp)), s2, .val (.int (Int32.ofNat k))] [(.ref lA), (.ref xA)])) _
  refine XS.iloadN X10.here hx rfl (hb hby d3_169) rfl ?_
  show Steps p.tables e below (T10.setTop (mkF m 170 #[.val (.ref o0), .val (.int (Int32.ofNat pp)), s2, .val (.int (Int32.ofNat k))] [(.int (Int32.ofNat pp)), (.ref lA), (.ref xA)])) _
  refine X10.iaload hx (j := (Int32.ofNat pp)) (v := (.int (Int32.ofNat jj))) (by rw [e10]; exact Ar_w9.1) (State.isArrayOf_alike hZ.alike Ar_w9.2.1) Ar_w9.2.2 hin170 hat170 (g := (mkF m 170 #[.val (.ref o0), .val (.int (Int32.ofNat pp)), s2, .val (.int (Int32.ofNat k))] [(.int (Int32.ofNat pp)), (.ref lA), (.ref xA)])) rfl rfl (hb hby d3_170) _ ?_
  show Steps p.tables e below (T10.setTop (mkF m 171 #[.val (.ref o0), .val (.int (Int32.ofNat pp)), s2, .val (.int (Int32.ofNat k))] [(.int (Int32.ofNat jj)), (.ref xA)])) _
  refine XS.iloadN X10.here hx rfl (hb hby d3_171) rfl ?_
  show Steps p.tables e below (T10.setTop (mkF m 172 #[.val (.ref o0), .val (.int (Int32.ofNat pp)), s2, .val (.int (Int32.ofNat k))] [(.int (Int32.ofNat k)), (.int (Int32.ofNat jj)), (.ref xA)])) _
  refine st12 _ ?_
  exact kt
theorem d3_173 : decode prog_60_method_2_code 173 = .ok (.aload_n 0, 1) := by decide +kernel
theorem d3_174 : decode prog_60_method_2_code 174 = .ok (.getfield 13, 3) := by decide +kernel
theorem d3_177 : decode prog_60_method_2_code 177 = .ok (.iload_n 1, 1) := by decide +kernel
theorem d3_178 : decode prog_60_method_2_code 178 = .ok (.iload_n 3, 1) := by decide +kernel
theorem d3_179 : decode prog_60_method_2_code 179 = .ok (.iastore, 1) := by decide +kernel
set_option maxRecDepth 65536 in
set_option maxHeartbeats 40000000 in
theorem tn3_173_180 {p : Program} {l : Launch} {e : Env} {R : Room} {s : State} {m : MethodId} {args : Array Value} {below : List Frame} {meth : Method} {c : Code} {T0 : State} {locs : List Loc} {cells slots : Nat} {Z : State} {a0 : Array Value} {h0 : Heap} {n0 : Nat} (o0 : Addr) (s2 : Slot) (cl_w4 : Cell) (fA lA wA xA : Addr) (P Q M N n : Nat) (F G V X : Nat → Int32) (k pp : Nat)
    (X0 : Stand p l e R s m args below meth c T0 locs cells slots) (hx : p.tables.exec = Jvm.exec) (hZ : Z.Warmed39 s.vm) (hw : ∀ d ∈ tables_1, d.before a0 Z = true) (hby : c.code = prog_60_method_2_code) (hml : c.maxLocals = 4) (hown : s.vm.findClass "com/example/redress/redress/definition/Waiters" = some m.cls) (e0 : T0.heap = h0) (N0 : Fr n0 locs) (Z0 : n0 ≤ h0.size) (F_lasts_o0 : Fld Z h0 o0 "com/example/redress/redress/definition/Waiters" "lasts" "[I" (.ref lA)) (Ar_w4 : Arr Z h0 lA cl_w4 .int) (hin179 : ¬ ((Int32.ofNat pp) < 0 ∨ cl_w4.slots.size ≤ ((Int32.ofNat pp)).toNatClampNeg)) (g_w4 : n0 ≤ lA) (S : own_W Z n0 h0 o0 fA lA wA xA P Q M N n F G V X) (hpQ : pp < Q) (hp : pp < 1000) :
    ∃ (T' : State) (h' : Heap) (locs' : List Loc), Stand p l e R s m args below meth c T' locs' cells slots ∧ T'.heap = h' ∧ Fr n0 locs' ∧ n0 ≤ h'.size ∧ (own_W Z n0 h' o0 fA lA wA xA P Q M N n F (own_upd G pp (Int32.ofNat k)) V X) ∧
      ∀ target, Steps p.tables e below (T'.setTop (mkF m 180 #[.val (.ref o0), .val (.int (Int32.ofNat pp)), s2, .val (.int (Int32.ofNat k))] [])) target → Steps p.tables e below (T0.setTop (mkF m 173 #[.val (.ref o0), .val (.int (Int32.ofNat pp)), s2, .val (.int (Int32.ofNat k))] [])) target := by
  obtain ⟨T5, X5, e5, st5⟩ := getF X0 hx hZ hown (host := "") (Or.inl (hw _ (List.mem_of_getElem? (i := 12) rfl))) Via.refl e0 F_lasts_o0 (g := (mkF m 174 #[.val (.ref o0), .val (.int (Int32.ofNat pp)), s2, .val (.int (Int32.ofNat k))] [(.ref o0)])) rfl rfl (hb hby d3_174)
  obtain ⟨T6, h6, X6, e6, W6, st6⟩ := stI X5 hx hZ e5 Ar_w4 (j := (Int32.ofNat pp)) hin179 (g := (mkF m 179 #[.val (.ref o0), .val (.int (Int32.ofNat pp)), s2, .val (.int (Int32.ofNat k))] [(.int (Int32.ofNat k)), (.int (Int32.ofNat pp)), (.ref lA)])) rfl rfl (hb hby d3_179)
  have N6 := Fr.snoc X6 N0 g_w4
  have K6 : Keep h0 h6 [lA] := (Keep.refl h0 [lA]).wr W6 (Or.inl (List.mem_of_getElem? (i := 0) rfl))
  refine ⟨T6, _, _, X6, e6, N6, (Nat.le_trans Z0 K6.1), (by rw [own_nc (by omega)] at W6; exact S.arr1 hw (Keep.of_wr W6) (S.2.2.2.2.1.2.1.setI W6 hpQ)), fun target kt => ?_⟩
  show Steps p.tables e below (T0.setTop (mkF m 173 #[.val (.ref o0), .val (.int (Int32.ofNat pp)), s2, .val (.int (Int32.ofNat k))] [])) _
  refine XS.aloadN X0.here hx rfl (hb hby d3_173) rfl rfl ?_
  show Steps p.tables e below (T0.setTop (mkF m 174 #[.val (.ref o0), .val (.int (Int32.ofNat pp)), s2, .val (.int (Int32.ofNat k))] [(.ref o0)])) _
  refine st5 _ ?_
  show Steps p.tables e below (T5.setTop (mkF m 177 #[.val (.ref o0), .val (.int (Int32.ofNat pp)), s2, .val (.int (Int32.ofNat k))] [(.ref lA)])) _
  refine XS.iloadN X5.here hx rfl (hb hby d3_177) rfl ?_
  show Steps p.tables e below (T5.setTop (mkF m 178 #[.val (.ref o0), .val (.int (Int32.ofNat pp)), s2, .val (.int (Int32.ofNat k))] [(.int (Int32.ofNat pp)), (.ref lA)])) _
  refine XS.iloadN X5.here hx rfl (hb hby d3_178) rfl ?_
  show Steps p.tables e below (T5.setTop (mkF m 179 #[.val (.ref o0), .val (.int (Int32.ofNat pp)), s2, .val (.int (Int32.ofNat k))] [(.int (Int32.ofNat k)), (.int (Int32.ofNat pp)), (.ref lA)])) _
  refine st6 _ ?_
  exact kt

def own_I (P n : Nat) (F G V : Nat → Int32) (pts : Nat → Nat) (vals : Nat → Int32) : Prop := (∀ i, i < n → V i = vals i) ∧ (∀ i, i < n → pts i < P) ∧ (∀ j, j < P → (∃ i, i < n ∧ pts i = j ∧ (∀ i', i' < i → pts i' ≠ j) ∧ F j = Int32.ofNat i) ∨ ((∀ i, i < n → pts i ≠ j) ∧ F j = -1)) ∧ (∀ j, j < P → F j ≠ -1 → ∃ k, k < n ∧ G j = Int32.ofNat k)
theorem own_nm1 {i : Nat} (h : i < 1000) : Int32.ofNat i ≠ -1 := fun q => by
  have := congrArg Int32.toInt q
  rw [own_ti (by omega), show (-1 : Int32).toInt = -1 by decide] at this
  omega
theorem own_I.grow {P P' n : Nat} {F G V : Nat → Int32} {pts : Nat → Nat} {vals : Nat → Int32} (I : own_I P n F G V pts vals) (h : P ≤ P') : own_I P' n (own_fl (fun j => if j < P then F j else 0) P P' (-1)) (fun j => if j < P then G j else 0) V pts vals := by
  obtain ⟨i1, i2, i3, i4⟩ := I
  have e : ∀ j, j < P' → own_fl (fun j => if j < P then F j else 0) P P' (-1) j = if j < P then F j else -1 := fun j hj => by
    unfold own_fl
    by_cases q : j < P
    · rw [if_neg (by omega)]; show (if j < P then F j else 0) = _; rw [if_pos q, if_pos q]
    · rw [if_pos (by omega), if_neg q]
  refine ⟨i1, fun i hi => Nat.lt_of_lt_of_le (i2 i hi) h, fun j hj => ?_, fun j hj hne => ?_⟩
  · rw [e j hj]
    by_cases q : j < P
    · rw [if_pos q]; exact i3 j q
    · rw [if_neg q]; exact Or.inr ⟨fun i hi z => q (z ▸ i2 i hi), rfl⟩
  · rw [e j hj] at hne
    by_cases q : j < P
    · rw [if_pos q] at hne; show ∃ k, k < n ∧ (if j < P then G j else 0) = Int32.ofNat k; rw [if_pos q]; exact i4 j q hne
    · rw [if_neg q] at hne; exact absurd rfl hne
theorem own_I.zero {P : Nat} {F G V V' : Nat → Int32} {pts : Nat → Nat} {vals : Nat → Int32} (I : own_I P 0 F G V pts vals) : own_I P 0 F G V' pts vals := ⟨fun i hi => absurd hi (Nat.not_lt_zero i), I.2.1, I.2.2.1, I.2.2.2⟩
theorem own_I.addF {P n p : Nat} {F G V : Nat → Int32} {pts : Nat → Nat} {vals : Nat → Int32} {v : Int32} (I : own_I P n F G V pts vals) (hp : pts n = p) (hv : vals n = v) (hpP : p < P) (hn : n < 1000) (h1 : F p = -1) : own_I P (n + 1) (own_upd F p (Int32.ofNat n)) (own_upd G p (Int32.ofNat n)) (own_upd V n v) pts vals := by
  obtain ⟨i1, i2, i3, i4⟩ := I
  refine ⟨fun i hi => ?_, fun i hi => ?_, fun j hj => ?_, fun j hj hne => ?_⟩
  · unfold own_upd
    by_cases q : i = n
    · rw [if_pos q, q, hv]
    · rw [if_neg q]; exact i1 i (by omega)
  · by_cases q : i = n
    · rw [q, hp]; exact hpP
    · exact i2 i (by omega)
  · by_cases q : j = p
    · subst q
      rcases i3 j hj with ⟨i, hi, -, -, hF⟩ | ⟨hno, -⟩
      · exact absurd (hF.symm.trans h1) (own_nm1 (by omega))
      · exact Or.inl ⟨n, by omega, hp, hno, by unfold own_upd; rw [if_pos rfl]⟩
    · have e : own_upd F p (Int32.ofNat n) j = F j := by unfold own_upd; rw [if_neg q]
      rw [e]
      rcases i3 j hj with ⟨i, hi, r⟩ | ⟨hno, hF⟩
      · exact Or.inl ⟨i, by omega, r⟩
      · refine Or.inr ⟨fun i hi z => ?_, hF⟩
        by_cases w : i = n
        · rw [w, hp] at z; exact q z.symm
        · exact hno i (by omega) z
  · by_cases q : j = p
    · exact ⟨n, by omega, by unfold own_upd; rw [if_pos q]⟩
    · have e : own_upd F p (Int32.ofNat n) j = F j := by unfold own_upd; rw [if_neg q]
      rw [e] at hne
      obtain ⟨k, hk, hG⟩ := i4 j hj hne
      exact ⟨k, by omega, by unfold own_upd; rw [if_neg q]; exact hG⟩
theorem own_I.addN {P n p : Nat} {F G V : Nat → Int32} {pts : Nat → Nat} {vals : Nat → Int32} {v : Int32} (I : own_I P n F G V pts vals) (hp : pts n = p) (hv : vals n = v) (hpP : p < P) (h1 : F p ≠ -1) : own_I P (n + 1) F (own_upd G p (Int32.ofNat n)) (own_upd V n v) pts vals := by
  obtain ⟨i1, i2, i3, i4⟩ := I
  refine ⟨fun i hi => ?_, fun i hi => ?_, fun j hj => ?_, fun j hj hne => ?_⟩
  · unfold own_upd
    by_cases q : i = n
    · rw [if_pos q, q, hv]
    · rw [if_neg q]; exact i1 i (by omega)
  · by_cases q : i = n
    · rw [q, hp]; exact hpP
    · exact i2 i (by omega)
  · rcases i3 j hj with ⟨i, hi, r⟩ | ⟨hno, hF⟩
    · exact Or.inl ⟨i, by omega, r⟩
    · refine Or.inr ⟨fun i hi z => ?_, hF⟩
      by_cases w : i = n
      · rw [w, hp] at z; exact h1 (z ▸ hF)
      · exact hno i (by omega) z
  · by_cases q : j = p
    · exact ⟨n, by omega, by unfold own_upd; rw [if_pos q]⟩
    · obtain ⟨k, hk, hG⟩ := i4 j hj hne
      exact ⟨k, by omega, by unfold own_upd; rw [if_neg q]; exact hG⟩
def own_St (Z : State) (n0 : Nat) (h : Heap) (a : Addr) (P n : Nat) (pts : Nat → Nat) (vals : Nat → Int32) : Prop := P ≤ 30 ∧ ∃ (fA lA wA xA : Addr) (M : Nat) (F G V X : Nat → Int32), M = (if n = 0 then 0 else 16) ∧ own_W Z n0 h a fA lA wA xA P P M M n F G V X ∧ own_I P n F G V pts vals
theorem d3_180 : decode prog_60_method_2_code 180 = .ok (.return_, 1) := by decide +kernel
theorem pn_3 : plainName "com/example/redress/redress/definition/Waiters" = true := by first | (simp [plainName, overriddenIn]; done) | decide +kernel
theorem ef_3 (m : MethodId) (x0 : Addr) (x1 : Int32) (x2 : Int32) : entryFrame m #[(.ref x0), (.int x1), (.int x2)] 4 = mkF m 0 #[.val (.ref x0), .val (.int x1), .val (.int x2), .unset] [] := by first | (simp [entryFrame, mkF, argsToLocals, Value.category]; done) | rfl


def Q3 (Z : State) (n0 : Nat) (a : Addr) (n : Nat) (pts : Nat → Nat) (vals : Nat → Int32) (v : Option Value) (h : Heap) (L : List Loc) : Prop := v = none ∧ Fr n0 L ∧ n0 ≤ h.size ∧ ∃ P', own_St Z n0 h a P' (n + 1) pts vals
set_option maxRecDepth 65536 in
set_option maxHeartbeats 40000000 in
theorem rm3 (l : Launch) (Z : State) (a0 : Array Value) (hw : ∀ d ∈ tables_1, d.before a0 Z = true) (ws : List Jvm.Cond) (a1 : Addr) (pp : Nat) (v3 : Int32) (P n : Nat) (pts : Nat → Nat) (vals : Nat → Int32) (h0 : Heap) (n0 : Nat) (Z0 : n0 ≤ h0.size) (S : own_St Z n0 h0 a1 P n pts vals) (hp15 : pp ≤ 15) (hn2 : n ≤ 2) (ep : pts n = pp) (ev : vals n = v3) :
    MetFree l (⟨"com/example/redress/redress/definition/Waiters", "add", "(II)V"⟩ : MethodName) (head1 (Jvm.Cond.code (⟨"com/example/redress/redress/definition/Waiters", "add", "(II)V"⟩ : MethodName) prog_60_method_2_code 4 none :: ws) ({ frames := 2, cells := 4, slots := 92, locals := 33 } : Room)) (fun a U => a = #[(.ref a1), (.int (Int32.ofNat pp)), (.int v3)] ∧ Z.Warmed39 U.vm ∧ U.heap = h0) (fun _ _ _ _ _ => True) (fun _ U o U' => ∃ v L, o = .returned v ∧ Q3 Z n0 a1 n pts vals v U'.heap L ∧ FrameEnd U o U' L ({ frames := 2, cells := 4, slots := 92, locals := 33 } : Room).cells ({ frames := 2, cells := 4, slots := 92, locals := 33 } : Room).slots) := by
  refine MetFree.of_bodySF (plainFor_of_name pn_3) hisR ?_
  intro p e s m args below meth c s₁ Bd hml0 hP hK
  obtain ⟨rfl, hZ, hh⟩ := hP
  have hx := Bd.exec
  have hby := Bd.bytes
  have hml : c.maxLocals = 4 := hml0
  have hown : s.vm.findClass "com/example/redress/redress/definition/Waiters" = some m.cls := findClass_of_methodNamed Bd.named
  have X0 : Stand p l e ({ frames := 2, cells := 4, slots := 92, locals := 33 } : Room) s m #[(.ref a1), (.int (Int32.ofNat pp)), (.int v3)] below meth c s₁ [] 0 0 := Stand.of_body Bd
  have e0 : s₁.heap = h0 := by rw [← hh, Bd.state]; rfl
  have N0 := Fr.nil n0
  have pre0 : ∀ t, Steps p.tables e below (s₁.setTop (mkF m 0 #[.val (.ref a1), .val (.int (Int32.ofNat pp)), .val (.int v3), .unset] [])) t → Steps p.tables e below (s₁.setTop (entryFrame m #[(.ref a1), (.int (Int32.ofNat pp)), (.int v3)] 4)) t := fun t k => castTop (ef_3 m a1 (Int32.ofNat pp) v3) k
  obtain ⟨hP, fA, lA, wA, xA, M, F, G, V, X, hM, W0, I0⟩ := S
  obtain ⟨T1, h1, l1, s3, fA1, lA1, P1, F1, G1, X1, e1, N1, Z1, W1, I1, hp1, hP1, hs3, st1⟩ : ∃ (T' : State) (h' : Heap) (locs' : List Loc) (s3 : Slot) (fA' lA' : Addr) (P' : Nat) (F' G' : Nat → Int32), Stand p l e ({ frames := 2, cells := 4, slots := 92, locals := 33 } : Room) s m _ below meth c T' locs' 2 60 ∧ T'.heap = h' ∧ Fr n0 locs' ∧ n0 ≤ h'.size ∧ own_W Z n0 h' a1 fA' lA' wA xA P' P' M M n F' G' V X ∧ own_I P' n F' G' V pts vals ∧ pp < P' ∧ P' ≤ 30 ∧ One s3 ∧ ∀ target, Steps p.tables e below (T'.setTop (mkF m 65 #[.val (.ref a1), .val (.int (Int32.ofNat pp)), .val (.int v3), s3] [])) target → Steps p.tables e below (s₁.setTop (mkF m 0 #[.val (.ref a1), .val (.int (Int32.ofNat pp)), .val (.int v3), .unset] [])) target := by
    obtain ⟨hq, cl, Ar, Sz, -, -⟩ := id W0.2.2.2.2.1.1
    by_cases hc : pp < P
    · obtain ⟨T', X', e', st'⟩ := own_a0s a1 (Int32.ofNat pp) (.val (.int v3)) .unset fA cl (Int32.ofNat P) X0 hx hZ hw hby hml hown e0 W0.2.2.1.1 Ar (by rw [own_nc hq]; exact Sz) (own_nneg hq) ((own_ltn (by omega) hq).mpr hc)
      exact ⟨T', h0, [], .unset, fA, lA, P, F, G, X'.mono (by decide) (by decide), e', N0, Z0, W0, I0, hc, hP, One.u, st'⟩
    · obtain ⟨Ta, Xa, ea, sta⟩ := own_a0 a1 (Int32.ofNat pp) (.val (.int v3)) fA cl (Int32.ofNat P) X0 hx hZ hw hby hml hown e0 W0.2.2.1.1 Ar (by rw [own_nc hq]; exact Sz) (own_nneg hq) One.u (mt (own_ltn (by omega) hq).mp hc)
      have Na := N0
      have Za := Z0
      obtain ⟨bb, Tb, hb_, lb, Xb, eb, Nb, Zb, Wb, stb⟩ := tn3_15_35 a1 (.val (.int v3)) _ _ _ _ _ _ _ _ _ _ _ _ _ pp Xa hx hZ hw hby hml hown ea Na Za W0.2.2.1.1 W0.1 W0.2.1 W0 (by omega) hp15
      obtain ⟨hqb, clb, Arb, Szb, -, -⟩ := id Wb.2.2.2.2.1.1
      obtain ⟨bc, Tc, hc_, lc, Xc, ec, Nc, Zc, Wc, stc⟩ := tn3_35_51 a1 (.val (.int (Int32.ofNat pp))) (.val (.int v3)) _ clb _ _ _ _ _ _ _ _ _ _ _ _ _ Xb hx hZ hw hby hml hown eb Nb Zb Wb.2.2.1.2.1 Wb.2.2.1.1 Arb (by rw [own_nc hqb]; exact Szb) (own_nneg hqb) Wb.1 Wb.2.1 Wb (by omega) (by omega)
      obtain ⟨hqc, clc, Arc, Szc, -, -⟩ := id Wc.2.2.2.2.1.1
      obtain ⟨Td, hd_, ld, Xd, ed, Nd, Zd, Wd, std⟩ := tn3_51_65 a1 (.val (.int (Int32.ofNat pp))) (.val (.int v3)) clc _ _ _ _ _ _ _ _ _ _ _ _ _ P Xc hx hZ hw hby hml hown ec Nc Zc Wc.2.2.1.1 Arc (by rw [own_nc hqc]; exact Szc) (own_nneg hqc) Wc (by omega)
      exact ⟨Td, hd_, ld, _, bb, bc, max (2 * P) (pp + 1), _, _, Xd, ed, Nd, Zd, Wd, I0.grow (by omega), by omega, by omega, One.val rfl, fun t kt => sta t (stb t (stc t (std t kt)))⟩
  obtain ⟨T2, h2, l2, wA2, xA2, V2, X2_, X2, e2, N2, Z2, W2, I2, st2⟩ : ∃ (T' : State) (h' : Heap) (locs' : List Loc) (wA' xA' : Addr) (V' X' : Nat → Int32), Stand p l e ({ frames := 2, cells := 4, slots := 92, locals := 33 } : Room) s m _ below meth c T' locs' 4 92 ∧ T'.heap = h' ∧ Fr n0 locs' ∧ n0 ≤ h'.size ∧ own_W Z n0 h' a1 fA1 lA1 wA' xA' P1 P1 16 16 n F1 G1 V' X' ∧ own_I P1 n F1 G1 V' pts vals ∧ ∀ target, Steps p.tables e below (T'.setTop (mkF m 115 #[.val (.ref a1), .val (.int (Int32.ofNat pp)), .val (.int v3), s3] [])) target → Steps p.tables e below (T1.setTop (mkF m 65 #[.val (.ref a1), .val (.int (Int32.ofNat pp)), .val (.int v3), s3] [])) target := by
    obtain ⟨hq, cl, Ar, Sz, -, -⟩ := id W1.2.2.2.2.1.2.2.1
    by_cases hz : n = 0
    · subst hz
      obtain rfl : M = 0 := by rw [hM, if_pos rfl]
      obtain ⟨Ta, Xa, ea, sta⟩ := own_a65 a1 (.val (.int (Int32.ofNat pp))) (.val (.int v3)) s3 (Int32.ofNat 0) wA cl (Int32.ofNat 0) X1 hx hZ hw hby hml hown e1 W1.2.2.2.1 W1.2.2.1.2.2.1 Ar (by rw [own_nc hq]; exact Sz) (own_nneg hq) rfl
      have Na := N1
      have Za := Z1
      obtain ⟨bb, Tb, hb_, lb, Xb, eb, Nb, Zb, Wb, stb⟩ := tn3_77_99 a1 (.val (.int (Int32.ofNat pp))) (.val (.int v3)) s3 _ _ _ _ _ _ _ _ _ _ _ Xa hx hZ hw hby hml hown ea Na Za W1.2.2.1.2.2.1 W1.2.2.2.1 W1.1 W1.2.1 W1
      obtain ⟨-, clb, Arb, Szb, -, -⟩ := id Wb.2.2.2.2.1.2.2.1
      obtain ⟨bc, Tc, hc_, lc, Xc, ec, Nc, Zc, Wc, stc⟩ := tn3_99_115 a1 (.val (.int (Int32.ofNat pp))) (.val (.int v3)) s3 clb _ _ _ _ _ _ _ _ _ _ _ _ _ Xb hx hZ hw hby hml hown eb Nb Zb Wb.2.2.1.2.2.2 Wb.2.2.1.2.2.1 Arb (by rw [own_nc (by decide)]; exact Szb) (own_nneg (by decide)) Wb.1 Wb.2.1 Wb (by decide) (by decide)
      exact ⟨Tc, hc_, lc, bb, bc, _, _, Xc, ec, Nc, Zc, Wc, I1.zero, fun t kt => sta t (stb t (stc t kt))⟩
    · obtain rfl : M = 16 := by rw [hM, if_neg hz]
      obtain ⟨T', X', e', st'⟩ := own_a65s a1 (.val (.int (Int32.ofNat pp))) (.val (.int v3)) s3 (Int32.ofNat n) wA cl (Int32.ofNat 16) X1 hx hZ hw hby hml hown e1 W1.2.2.2.1 W1.2.2.1.2.2.1 Ar (by rw [own_nc hq]; exact Sz) (own_nneg hq) (fun z => by have := congrArg Int32.toInt z; rw [own_ti (by omega), own_ti (by decide)] at this; omega)
      exact ⟨T', h1, l1, wA, xA, V, X, X'.mono (by decide) (by decide), e', N1, Z1, W1, I1, st'⟩
  obtain ⟨T3, h3, l3, X3, e3, N3, Z3, W3, st3⟩ := tn3_115_127 a1 (.val (.int (Int32.ofNat pp))) (.val (.int v3)) s3 _ _ _ _ _ _ _ _ _ _ _ _ _ X2 hx hZ hw hby hml hown e2 N2 Z2 W2.2.2.2.1 W2.1 W2.2.1 hs3 W2
  obtain ⟨-, clw, Arw, Szw, -, -⟩ := id W3.2.2.2.2.1.2.2.1
  obtain ⟨-, clx, Arx, Szx, -, -⟩ := id W3.2.2.2.2.1.2.2.2
  obtain ⟨T4, h4, l4, X4, e4, N4, Z4, W4, st4⟩ := tn3_127_141 a1 (.val (.int (Int32.ofNat pp))) v3 clw clx _ _ _ _ _ _ _ _ _ _ _ _ _ n X3 hx hZ hw hby hml hown e3 N3 Z3 W3.2.2.1.2.2.1 Arw (own_inb Szw (by omega) (by decide)) W3.2.2.2.2.2.1.2.2.1 W3.2.2.1.2.2.2 Arx (own_inb Szx (by omega) (by decide)) W3.2.2.2.2.2.1.2.2.2 W3 (by omega) (by omega) (by omega)
  obtain ⟨hqf, clf, Arf, Szf, Hf, -⟩ := id W4.2.2.2.2.1.1
  obtain ⟨hql, cll, Arl, Szl, Hl, -⟩ := id W4.2.2.2.2.1.2.1
  obtain ⟨-, cly, Ary, Szy, -, -⟩ := id W4.2.2.2.2.1.2.2.2
  obtain ⟨T5, h5, l5, F5, X5_, X5, e5, N5, Z5, W5, I5, st5⟩ : ∃ (T' : State) (h' : Heap) (locs' : List Loc) (F' X' : Nat → Int32), Stand p l e ({ frames := 2, cells := 4, slots := 92, locals := 33 } : Room) s m _ below meth c T' locs' 4 92 ∧ T'.heap = h' ∧ Fr n0 locs' ∧ n0 ≤ h'.size ∧ own_W Z n0 h' a1 fA1 lA1 wA2 xA2 P1 P1 16 16 (n + 1) F' G1 (own_upd V2 n v3) X' ∧ own_I P1 (n + 1) F' (own_upd G1 pp (Int32.ofNat n)) (own_upd V2 n v3) pts vals ∧ ∀ target, Steps p.tables e below (T'.setTop (mkF m 173 #[.val (.ref a1), .val (.int (Int32.ofNat pp)), .val (.int v3), .val (.int (Int32.ofNat n))] [])) target → Steps p.tables e below (T4.setTop (mkF m 141 #[.val (.ref a1), .val (.int (Int32.ofNat pp)), .val (.int v3), .val (.int (Int32.ofNat n))] [])) target := by
    by_cases hc : F1 pp = (-1 : Int32)
    · obtain ⟨T', h', l', X', e', N', Z', W', st'⟩ := own_a141 a1 (.val (.int v3)) clf _ _ _ _ _ _ _ _ _ _ _ _ _ n pp X4 hx hZ hw hby hml hown e4 N4 Z4 W4.2.2.1.1 Arf (own_inb Szf hp1 hqf) (by rw [own_nc (by omega)]; exact Hf pp hp1) (own_inb Szf hp1 hqf) W4.2.2.2.2.2.1.1 hc W4 hp1 (by omega)
      exact ⟨T', h', l', _, _, X', e', N', Z', W', I2.addF ep ev hp1 (by omega) hc, st'⟩
    · obtain ⟨jj, hj, hG⟩ := I2.2.2.2 pp hp1 hc
      obtain ⟨T', h', l', X', e', N', Z', W', st'⟩ := own_a141t a1 (.val (.int v3)) clf cll cly _ _ _ _ _ _ _ _ _ _ _ _ _ n pp jj X4 hx hZ hw hby hml hown e4 N4 Z4 W4.2.2.1.1 Arf (own_inb Szf hp1 hqf) (by rw [own_nc (by omega)]; exact Hf pp hp1) W4.2.2.1.2.2.2 W4.2.2.1.2.1 Arl (own_inb Szl hp1 hql) (by rw [own_nc (by omega), ← hG]; exact Hl pp hp1) Ary (own_inb Szy (by omega) (by decide)) W4.2.2.2.2.2.1.2.2.2 hc W4 (by omega) (by omega) (by omega)
      exact ⟨T', h', l', _, _, X', e', N', Z', W', I2.addN ep ev hp1 hc, st'⟩
  obtain ⟨hqm, clm, Arm, Szm, -, -⟩ := id W5.2.2.2.2.1.2.1
  obtain ⟨T6, h6, l6, X6, e6, N6, Z6, W6, st6⟩ := tn3_173_180 a1 (.val (.int v3)) clm _ _ _ _ _ _ _ _ _ _ _ _ _ n pp X5 hx hZ hw hby hml hown e5 N5 Z5 W5.2.2.1.2.1 Arm (own_inb Szm hp1 hqm) W5.2.2.2.2.2.1.2.1 W5 hp1 (by omega)
  obtain ⟨fs, hr, hrun, hended, hW, hsame⟩ := X6.leave (v := none) (fun _ => rfl)
  refine ⟨_, _, pre0 _ ?_, hrun, hended, _, _, rfl, ?_, ⟨_, rfl⟩, hW, hsame.mono (by decide) (by decide)⟩
  · exact st1 _ (st2 _ (st3 _ (st4 _ (st5 _ (st6 _ (X6.returnOut hx Bd.returns (hb hby d3_180) hr))))))
  · show Q3 Z n0 a1 n pts vals _ T6.heap _
    rw [e6]
    exact ⟨rfl, N6, Z6, P1, hP1, fA1, lA1, wA2, xA2, 16, _, _, _, _, by rw [if_neg (by omega)], W6, I5⟩
theorem d9_0 : decode prog_60_method_3_code 0 = .ok (.iload_n 1, 1) := by decide +kernel
theorem d9_1 : decode prog_60_method_3_code 1 = .ok (.aload_n 0, 1) := by decide +kernel
theorem d9_2 : decode prog_60_method_3_code 2 = .ok (.getfield 7, 3) := by decide +kernel
theorem d9_5 : decode prog_60_method_3_code 5 = .ok (.arraylength, 1) := by decide +kernel
theorem d9_6 : decode prog_60_method_3_code 6 = .ok (.if_icmp .ge 12, 3) := by decide +kernel
theorem d9_9 : decode prog_60_method_3_code 9 = .ok (.aload_n 0, 1) := by decide +kernel
theorem d9_10 : decode prog_60_method_3_code 10 = .ok (.getfield 7, 3) := by decide +kernel
theorem d9_13 : decode prog_60_method_3_code 13 = .ok (.iload_n 1, 1) := by decide +kernel
theorem d9_14 : decode prog_60_method_3_code 14 = .ok (.iaload, 1) := by decide +kernel
theorem d9_15 : decode prog_60_method_3_code 15 = .ok (.goto 4, 3) := by decide +kernel
theorem d9_19 : decode prog_60_method_3_code 19 = .ok (.ireturn, 1) := by decide +kernel
theorem pn_9 : plainName "com/example/redress/redress/definition/Waiters" = true := by first | (simp [plainName, overriddenIn]; done) | decide +kernel
theorem ef_9 (m : MethodId) (x0 : Addr) (x1 : Int32) : entryFrame m #[(.ref x0), (.int x1)] 2 = mkF m 0 #[.val (.ref x0), .val (.int x1)] [] := by first | (simp [entryFrame, mkF, argsToLocals, Value.category]; done) | rfl
def Q9f (Z : State) (a1 : Addr) (p2 : Int32) (w3 : Addr) (cl_w3 : Cell) (z_w3 : Int32) (w6 : Int32) (h0 : Heap) (n0 : Nat) (v : Option Value) (h : Heap) (L : List Loc) : Prop := v = some (.int w6) ∧ Fr n0 L ∧ h = h0
set_option maxRecDepth 65536 in
set_option maxHeartbeats 40000000 in
theorem rm9f (l : Launch) (Z : State) (a0 : Array Value) (hw : ∀ d ∈ tables_1, d.before a0 Z = true) (ws : List Jvm.Cond) (a1 : Addr) (p2 : Int32) (w3 : Addr) (cl_w3 : Cell) (z_w3 : Int32) (w6 : Int32) (h0 : Heap) (n0 : Nat) (Z0 : n0 ≤ h0.size) (F_firsts_a1 : Fld Z h0 a1 "com/example/redress/redress/definition/Waiters" "firsts" "[I" (.ref w3)) (Ar_w3 : Arr Z h0 w3 cl_w3 .int) (S_w3 : cl_w3.slots.size = z_w3.toNatClampNeg) (N_w3 : ¬ z_w3 < 0) (hin14 : ¬ (p2 < 0 ∨ cl_w3.slots.size ≤ (p2).toNatClampNeg)) (hat14 : cl_w3.slots[(p2).toNatClampNeg]? = some (.int w6)) (hc6 : p2 < z_w3) :
    MetFree l (⟨"com/example/redress/redress/definition/Waiters", "first", "(I)I"⟩ : MethodName) (head1 (Jvm.Cond.code (⟨"com/example/redress/redress/definition/Waiters", "first", "(I)I"⟩ : MethodName) prog_60_method_3_code 2 (some .int) :: ws) ({ frames := 0, cells := 0, slots := 0, locals := 0 } : Room)) (fun a U => a = #[(.ref a1), (.int p2)] ∧ Z.Warmed39 U.vm ∧ U.heap = h0) (fun _ _ _ _ _ => True) (fun _ U o U' => ∃ v L, o = .returned v ∧ Q9f Z a1 p2 w3 cl_w3 z_w3 w6 h0 n0 v U'.heap L ∧ FrameEnd U o U' L ({ frames := 0, cells := 0, slots := 0, locals := 0 } : Room).cells ({ frames := 0, cells := 0, slots := 0, locals := 0 } : Room).slots) := by
  refine MetFree.of_bodySF (plainFor_of_name pn_9) hisR ?_
  intro p e s m args below meth c s₁ Bd hml0 hP hK
  obtain ⟨rfl, hZ, hh⟩ := hP
  have hx := Bd.exec
  have hby := Bd.bytes
  have hml : c.maxLocals = 2 := hml0
  have hown : s.vm.findClass "com/example/redress/redress/definition/Waiters" = some m.cls := findClass_of_methodNamed Bd.named
  have hnm := (name_of_methodNamed Bd.named Bd.method).1
  have X0 : Stand p l e ({ frames := 0, cells := 0, slots := 0, locals := 0 } : Room) s m #[(.ref a1), (.int p2)] below meth c s₁ [] 0 0 := Stand.of_body Bd
  have e0 : s₁.heap = h0 := by rw [← hh, Bd.state]; rfl
  have N0 := Fr.nil n0
  have pre0 : ∀ t, Steps p.tables e below (s₁.setTop (mkF m 0 #[.val (.ref a1), .val (.int p2)] [])) t → Steps p.tables e below (s₁.setTop (entryFrame m #[(.ref a1), (.int p2)] 2)) t := fun t k => castTop (ef_9 m a1 p2) k
  obtain ⟨T4, X4, e4, st4⟩ := getF X0 hx hZ hown (host := "") (Or.inl (hw _ (List.mem_of_getElem? (i := 10) rfl))) Via.refl e0 F_firsts_a1 (g := (mkF m 2 #[.val (.ref a1), .val (.int p2)] [(.ref a1), (.int p2)])) rfl rfl (hb hby d9_2)
  obtain ⟨T5, X5, e5, st5⟩ := getF X4 hx hZ hown (host := "") (Or.inl (hw _ (List.mem_of_getElem? (i := 10) rfl))) Via.refl e4 F_firsts_a1 (g := (mkF m 10 #[.val (.ref a1), .val (.int p2)] [(.ref a1)])) rfl rfl (hb hby d9_10)
  obtain ⟨fs, hr, hrun, hended, hW, hsame⟩ := X5.leave (v := some (.int w6)) (fun h => by rw [Bd.returns] at h; cases h)
  refine ⟨_, _, pre0 _ ?_, hrun, hended, _, _, rfl, ?_, ⟨_, rfl⟩, hW, hsame.mono (by decide) (by decide)⟩
  · show Steps p.tables e below (s₁.setTop (mkF m 0 #[.val (.ref a1), .val (.int p2)] [])) _
    refine XS.iloadN X0.here hx rfl (hb hby d9_0) rfl ?_
    show Steps p.tables e below (s₁.setTop (mkF m 1 #[.val (.ref a1), .val (.int p2)] [(.int p2)])) _
    refine XS.aloadN X0.here hx rfl (hb hby d9_1) rfl rfl ?_
    show Steps p.tables e below (s₁.setTop (mkF m 2 #[.val (.ref a1), .val (.int p2)] [(.ref a1), (.int p2)])) _
    refine st4 _ ?_
    show Steps p.tables e below (T4.setTop (mkF m 5 #[.val (.ref a1), .val (.int p2)] [(.ref w3), (.int p2)])) _
    refine X4.arraylength hx (by rw [e4]; exact Ar_w3.1) (State.isArrayOf_alike hZ.alike Ar_w3.2.1) (g := (mkF m 5 #[.val (.ref a1), .val (.int p2)] [(.ref w3), (.int p2)])) rfl rfl (hb hby d9_5) _ ?_
    rw [len_of S_w3 N_w3]
    show Steps p.tables e below (T4.setTop (mkF m 6 #[.val (.ref a1), .val (.int p2)] [(.int z_w3), (.int p2)])) _
    refine XS.icmpNo X4.here hx rfl (hb hby d9_6) rfl (tlt hc6).2.1 ?_
    show Steps p.tables e below (T4.setTop (mkF m 9 #[.val (.ref a1), .val (.int p2)] [])) _
    refine XS.aloadN X4.here hx rfl (hb hby d9_9) rfl rfl ?_
    show Steps p.tables e below (T4.setTop (mkF m 10 #[.val (.ref a1), .val (.int p2)] [(.ref a1)])) _
    refine st5 _ ?_
    show Steps p.tables e below (T5.setTop (mkF m 13 #[.val (.ref a1), .val (.int p2)] [(.ref w3)])) _
    refine XS.iloadN X5.here hx rfl (hb hby d9_13) rfl ?_
    show Steps p.tables e below (T5.setTop (mkF m 14 #[.val (.ref a1), .val (.int p2)] [(.int p2), (.ref w3)])) _
    refine X5.iaload hx (j := p2) (v := (.int w6)) (by rw [e5]; exact Ar_w3.1) (State.isArrayOf_alike hZ.alike Ar_w3.2.1) Ar_w3.2.2 hin14 hat14 (g := (mkF m 14 #[.val (.ref a1), .val (.int p2)] [(.int p2), (.ref w3)])) rfl rfl (hb hby d9_14) _ ?_
    show Steps p.tables e below (T5.setTop (mkF m 15 #[.val (.ref a1), .val (.int p2)] [(.int w6)])) _
    refine XS.goto X5.here hx rfl (pc0 := 15) (pc' := 19) rfl (hb hby d9_15) (by decide) (by decide) ?_
    show Steps p.tables e below (T5.setTop (mkF m 19 #[.val (.ref a1), .val (.int p2)] [(.int w6)])) _
    exact retI X5 hx Bd.returns (hb hby d9_19) hr
  · show Q9f Z a1 p2 w3 cl_w3 z_w3 w6 h0 n0 _ T5.heap _
    rw [e5]
    exact ⟨rfl, N0, rfl⟩
theorem d9_18 : decode prog_60_method_3_code 18 = .ok (.iconst (-1), 1) := by decide +kernel
def Q9t (Z : State) (a1 : Addr) (p2 : Int32) (w3 : Addr) (cl_w3 : Cell) (z_w3 : Int32) (h0 : Heap) (n0 : Nat) (v : Option Value) (h : Heap) (L : List Loc) : Prop := v = some (.int (-1 : Int32)) ∧ Fr n0 L ∧ h = h0
set_option maxRecDepth 65536 in
set_option maxHeartbeats 40000000 in
theorem rm9t (l : Launch) (Z : State) (a0 : Array Value) (hw : ∀ d ∈ tables_1, d.before a0 Z = true) (ws : List Jvm.Cond) (a1 : Addr) (p2 : Int32) (w3 : Addr) (cl_w3 : Cell) (z_w3 : Int32) (h0 : Heap) (n0 : Nat) (Z0 : n0 ≤ h0.size) (F_firsts_a1 : Fld Z h0 a1 "com/example/redress/redress/definition/Waiters" "firsts" "[I" (.ref w3)) (Ar_w3 : Arr Z h0 w3 cl_w3 .int) (S_w3 : cl_w3.slots.size = z_w3.toNatClampNeg) (N_w3 : ¬ z_w3 < 0) (hc6 : ¬ (p2 < z_w3)) :
    MetFree l (⟨"com/example/redress/redress/definition/Waiters", "first", "(I)I"⟩ : MethodName) (head1 (Jvm.Cond.code (⟨"com/example/redress/redress/definition/Waiters", "first", "(I)I"⟩ : MethodName) prog_60_method_3_code 2 (some .int) :: ws) ({ frames := 0, cells := 0, slots := 0, locals := 0 } : Room)) (fun a U => a = #[(.ref a1), (.int p2)] ∧ Z.Warmed39 U.vm ∧ U.heap = h0) (fun _ _ _ _ _ => True) (fun _ U o U' => ∃ v L, o = .returned v ∧ Q9t Z a1 p2 w3 cl_w3 z_w3 h0 n0 v U'.heap L ∧ FrameEnd U o U' L ({ frames := 0, cells := 0, slots := 0, locals := 0 } : Room).cells ({ frames := 0, cells := 0, slots := 0, locals := 0 } : Room).slots) := by
  refine MetFree.of_bodySF (plainFor_of_name pn_9) hisR ?_
  intro p e s m args below meth c s₁ Bd hml0 hP hK
  obtain ⟨rfl, hZ, hh⟩ := hP
  have hx := Bd.exec
  have hby := Bd.bytes
  have hml : c.maxLocals = 2 := hml0
  have hown : s.vm.findClass "com/example/redress/redress/definition/Waiters" = some m.cls := findClass_of_methodNamed Bd.named
  have hnm := (name_of_methodNamed Bd.named Bd.method).1
  have X0 : Stand p l e ({ frames := 0, cells := 0, slots := 0, locals := 0 } : Room) s m #[(.ref a1), (.int p2)] below meth c s₁ [] 0 0 := Stand.of_body Bd
  have e0 : s₁.heap = h0 := by rw [← hh, Bd.state]; rfl
  have N0 := Fr.nil n0
  have pre0 : ∀ t, Steps p.tables e below (s₁.setTop (mkF m 0 #[.val (.ref a1), .val (.int p2)] [])) t → Steps p.tables e below (s₁.setTop (entryFrame m #[(.ref a1), (.int p2)] 2)) t := fun t k => castTop (ef_9 m a1 p2) k
  obtain ⟨T4, X4, e4, st4⟩ := getF X0 hx hZ hown (host := "") (Or.inl (hw _ (List.mem_of_getElem? (i := 10) rfl))) Via.refl e0 F_firsts_a1 (g := (mkF m 2 #[.val (.ref a1), .val (.int p2)] [(.ref a1), (.int p2)])) rfl rfl (hb hby d9_2)
  obtain ⟨fs, hr, hrun, hended, hW, hsame⟩ := X4.leave (v := some (.int (-1 : Int32))) (fun h => by rw [Bd.returns] at h; cases h)
  refine ⟨_, _, pre0 _ ?_, hrun, hended, _, _, rfl, ?_, ⟨_, rfl⟩, hW, hsame.mono (by decide) (by decide)⟩
  · show Steps p.tables e below (s₁.setTop (mkF m 0 #[.val (.ref a1), .val (.int p2)] [])) _
    refine XS.iloadN X0.here hx rfl (hb hby d9_0) rfl ?_
    show Steps p.tables e below (s₁.setTop (mkF m 1 #[.val (.ref a1), .val (.int p2)] [(.int p2)])) _
    refine XS.aloadN X0.here hx rfl (hb hby d9_1) rfl rfl ?_
    show Steps p.tables e below (s₁.setTop (mkF m 2 #[.val (.ref a1), .val (.int p2)] [(.ref a1), (.int p2)])) _
    refine st4 _ ?_
    show Steps p.tables e below (T4.setTop (mkF m 5 #[.val (.ref a1), .val (.int p2)] [(.ref w3), (.int p2)])) _
    refine X4.arraylength hx (by rw [e4]; exact Ar_w3.1) (State.isArrayOf_alike hZ.alike Ar_w3.2.1) (g := (mkF m 5 #[.val (.ref a1), .val (.int p2)] [(.ref w3), (.int p2)])) rfl rfl (hb hby d9_5) _ ?_
    rw [len_of S_w3 N_w3]
    show Steps p.tables e below (T4.setTop (mkF m 6 #[.val (.ref a1), .val (.int p2)] [(.int z_w3), (.int p2)])) _
    refine XS.icmpYes X4.here hx rfl (pc0 := 6) (pc' := 18) rfl (hb hby d9_6) rfl (flt hc6).2.1 (by decide) (by decide) ?_
    show Steps p.tables e below (T4.setTop (mkF m 18 #[.val (.ref a1), .val (.int p2)] [])) _
    refine XS.iconst X4.here hx rfl (hb hby d9_18) ?_
    show Steps p.tables e below (T4.setTop (mkF m 19 #[.val (.ref a1), .val (.int p2)] [(.int (-1 : Int32))])) _
    exact retI X4 hx Bd.returns (hb hby d9_19) hr
  · show Q9t Z a1 p2 w3 cl_w3 z_w3 h0 n0 _ T4.heap _
    rw [e4]
    exact ⟨rfl, N0, rfl⟩
theorem d10_0 : decode prog_60_method_5_code 0 = .ok (.aload_n 0, 1) := by decide +kernel
theorem d10_1 : decode prog_60_method_5_code 1 = .ok (.getfield 16, 3) := by decide +kernel
theorem d10_4 : decode prog_60_method_5_code 4 = .ok (.iload_n 1, 1) := by decide +kernel
theorem d10_5 : decode prog_60_method_5_code 5 = .ok (.iaload, 1) := by decide +kernel
theorem d10_6 : decode prog_60_method_5_code 6 = .ok (.ireturn, 1) := by decide +kernel
theorem pn_10 : plainName "com/example/redress/redress/definition/Waiters" = true := by first | (simp [plainName, overriddenIn]; done) | decide +kernel
theorem ef_10 (m : MethodId) (x0 : Addr) (x1 : Int32) : entryFrame m #[(.ref x0), (.int x1)] 2 = mkF m 0 #[.val (.ref x0), .val (.int x1)] [] := by first | (simp [entryFrame, mkF, argsToLocals, Value.category]; done) | rfl
def Q10 (Z : State) (a1 : Addr) (p2 : Int32) (w3 : Addr) (w5 : Int32) (cl_w3 : Cell) (h0 : Heap) (n0 : Nat) (v : Option Value) (h : Heap) (L : List Loc) : Prop := v = some (.int w5) ∧ Fr n0 L ∧ h = h0
set_option maxRecDepth 65536 in
set_option maxHeartbeats 40000000 in
theorem rm10 (l : Launch) (Z : State) (a0 : Array Value) (hw : ∀ d ∈ tables_1, d.before a0 Z = true) (ws : List Jvm.Cond) (a1 : Addr) (p2 : Int32) (w3 : Addr) (w5 : Int32) (cl_w3 : Cell) (h0 : Heap) (n0 : Nat) (Z0 : n0 ≤ h0.size) (F_waiters_a1 : Fld Z h0 a1 "com/example/redress/redress/definition/Waiters" "waiters" "[I" (.ref w3)) (Ar_w3 : Arr Z h0 w3 cl_w3 .int) (hin5 : ¬ (p2 < 0 ∨ cl_w3.slots.size ≤ (p2).toNatClampNeg)) (hat5 : cl_w3.slots[(p2).toNatClampNeg]? = some (.int w5)) :
    MetFree l (⟨"com/example/redress/redress/definition/Waiters", "waiter", "(I)I"⟩ : MethodName) (head1 (Jvm.Cond.code (⟨"com/example/redress/redress/definition/Waiters", "waiter", "(I)I"⟩ : MethodName) prog_60_method_5_code 2 (some .int) :: ws) ({ frames := 0, cells := 0, slots := 0, locals := 0 } : Room)) (fun a U => a = #[(.ref a1), (.int p2)] ∧ Z.Warmed39 U.vm ∧ U.heap = h0) (fun _ _ _ _ _ => True) (fun _ U o U' => ∃ v L, o = .returned v ∧ Q10 Z a1 p2 w3 w5 cl_w3 h0 n0 v U'.heap L ∧ FrameEnd U o U' L ({ frames := 0, cells := 0, slots := 0, locals := 0 } : Room).cells ({ frames := 0, cells := 0, slots := 0, locals := 0 } : Room).slots) := by
  refine MetFree.of_bodySF (plainFor_of_name pn_10) hisR ?_
  intro p e s m args below meth c s₁ Bd hml0 hP hK
  obtain ⟨rfl, hZ, hh⟩ := hP
  have hx := Bd.exec
  have hby := Bd.bytes
  have hml : c.maxLocals = 2 := hml0
  have hown : s.vm.findClass "com/example/redress/redress/definition/Waiters" = some m.cls := findClass_of_methodNamed Bd.named
  have hnm := (name_of_methodNamed Bd.named Bd.method).1
  have X0 : Stand p l e ({ frames := 0, cells := 0, slots := 0, locals := 0 } : Room) s m #[(.ref a1), (.int p2)] below meth c s₁ [] 0 0 := Stand.of_body Bd
  have e0 : s₁.heap = h0 := by rw [← hh, Bd.state]; rfl
  have N0 := Fr.nil n0
  have pre0 : ∀ t, Steps p.tables e below (s₁.setTop (mkF m 0 #[.val (.ref a1), .val (.int p2)] [])) t → Steps p.tables e below (s₁.setTop (entryFrame m #[(.ref a1), (.int p2)] 2)) t := fun t k => castTop (ef_10 m a1 p2) k
  obtain ⟨T4, X4, e4, st4⟩ := getF X0 hx hZ hown (host := "") (Or.inl (hw _ (List.mem_of_getElem? (i := 14) rfl))) Via.refl e0 F_waiters_a1 (g := (mkF m 1 #[.val (.ref a1), .val (.int p2)] [(.ref a1)])) rfl rfl (hb hby d10_1)
  obtain ⟨fs, hr, hrun, hended, hW, hsame⟩ := X4.leave (v := some (.int w5)) (fun h => by rw [Bd.returns] at h; cases h)
  refine ⟨_, _, pre0 _ ?_, hrun, hended, _, _, rfl, ?_, ⟨_, rfl⟩, hW, hsame.mono (by decide) (by decide)⟩
  · show Steps p.tables e below (s₁.setTop (mkF m 0 #[.val (.ref a1), .val (.int p2)] [])) _
    refine XS.aloadN X0.here hx rfl (hb hby d10_0) rfl rfl ?_
    show Steps p.tables e below (s₁.setTop (mkF m 1 #[.val (.ref a1), .val (.int p2)] [(.ref a1)])) _
    refine st4 _ ?_
    show Steps p.tables e below (T4.setTop (mkF m 4 #[.val (.ref a1), .val (.int p2)] [(.ref w3)])) _
    refine XS.iloadN X4.here hx rfl (hb hby d10_4) rfl ?_
    show Steps p.tables e below (T4.setTop (mkF m 5 #[.val (.ref a1), .val (.int p2)] [(.int p2), (.ref w3)])) _
    refine X4.iaload hx (j := p2) (v := (.int w5)) (by rw [e4]; exact Ar_w3.1) (State.isArrayOf_alike hZ.alike Ar_w3.2.1) Ar_w3.2.2 hin5 hat5 (g := (mkF m 5 #[.val (.ref a1), .val (.int p2)] [(.int p2), (.ref w3)])) rfl rfl (hb hby d10_5) _ ?_
    show Steps p.tables e below (T4.setTop (mkF m 6 #[.val (.ref a1), .val (.int p2)] [(.int w5)])) _
    exact retI X4 hx Bd.returns (hb hby d10_6) hr
  · show Q10 Z a1 p2 w3 w5 cl_w3 h0 n0 _ T4.heap _
    rw [e4]
    exact ⟨rfl, N0, rfl⟩

def own_e (F : Nat → Int32) (P q : Nat) : Int32 := if q < P then F q else -1
theorem own_fst (l : Launch) (Z : State) (a0 : Array Value) (hw : ∀ d ∈ tables_1, d.before a0 Z = true) (ws : List Jvm.Cond) (a1 fA lA wA xA : Addr) (P Q M N n : Nat) (F G V X : Nat → Int32) (q : Nat) (hq : q < 2147483648) (h0 : Heap) (n0 : Nat) (Z0 : n0 ≤ h0.size) (W : own_W Z n0 h0 a1 fA lA wA xA P Q M N n F G V X) :
    MetFree l (⟨"com/example/redress/redress/definition/Waiters", "first", "(I)I"⟩ : MethodName) (head1 (Jvm.Cond.code (⟨"com/example/redress/redress/definition/Waiters", "first", "(I)I"⟩ : MethodName) prog_60_method_3_code 2 (some .int) :: ws) ({ frames := 0, cells := 0, slots := 0, locals := 0 } : Room)) (fun a U => a = #[(.ref a1), (.int (Int32.ofNat q))] ∧ Z.Warmed39 U.vm ∧ U.heap = h0) (fun _ _ _ _ _ => True) (fun _ U o U' => ∃ v L, o = .returned v ∧ own_Qr h0 n0 (.int (own_e F P q)) v U'.heap L ∧ FrameEnd U o U' L ({ frames := 0, cells := 0, slots := 0, locals := 0 } : Room).cells ({ frames := 0, cells := 0, slots := 0, locals := 0 } : Room).slots) := by
  obtain ⟨hP, cl, Ar, S, H, -⟩ := id W.2.2.2.2.1.1
  unfold own_e
  by_cases hc : q < P
  · rw [if_pos hc]
    exact rm9f l Z a0 hw ws a1 (Int32.ofNat q) fA cl (Int32.ofNat P) (F q) h0 n0 Z0 W.2.2.1.1 Ar (by rw [own_nc hP]; exact S) (own_nneg hP) (own_inb S hc hP) (by rw [own_nc hq]; exact H q hc) ((own_ltn hq hP).mpr hc)
  · rw [if_neg hc]
    exact rm9t l Z a0 hw ws a1 (Int32.ofNat q) fA cl (Int32.ofNat P) h0 n0 Z0 W.2.2.1.1 Ar (by rw [own_nc hP]; exact S) (own_nneg hP) (mt (own_ltn hq hP).mp hc)
theorem own_wtr (l : Launch) (Z : State) (a0 : Array Value) (hw : ∀ d ∈ tables_1, d.before a0 Z = true) (ws : List Jvm.Cond) (a1 fA lA wA xA : Addr) (P Q M N n : Nat) (F G V X : Nat → Int32) (i : Nat) (hi : i < M) (h0 : Heap) (n0 : Nat) (Z0 : n0 ≤ h0.size) (W : own_W Z n0 h0 a1 fA lA wA xA P Q M N n F G V X) :
    MetFree l (⟨"com/example/redress/redress/definition/Waiters", "waiter", "(I)I"⟩ : MethodName) (head1 (Jvm.Cond.code (⟨"com/example/redress/redress/definition/Waiters", "waiter", "(I)I"⟩ : MethodName) prog_60_method_5_code 2 (some .int) :: ws) ({ frames := 0, cells := 0, slots := 0, locals := 0 } : Room)) (fun a U => a = #[(.ref a1), (.int (Int32.ofNat i))] ∧ Z.Warmed39 U.vm ∧ U.heap = h0) (fun _ _ _ _ _ => True) (fun _ U o U' => ∃ v L, o = .returned v ∧ own_Qr h0 n0 (.int (V i)) v U'.heap L ∧ FrameEnd U o U' L ({ frames := 0, cells := 0, slots := 0, locals := 0 } : Room).cells ({ frames := 0, cells := 0, slots := 0, locals := 0 } : Room).slots) := by
  obtain ⟨hM, cl, Ar, S, H, -⟩ := id W.2.2.2.2.1.2.2.1
  exact rm10 l Z a0 hw ws a1 (Int32.ofNat i) wA (V i) cl h0 n0 Z0 W.2.2.1.2.2.1 Ar (own_inb S hi hM) (by rw [own_nc (by omega)]; exact H i hi)
theorem own_and (x m : Int32) (j : Nat) (hm : m.toBitVec.toNat = 2 ^ j - 1) : ∃ k, k < 2 ^ j ∧ x &&& m = Int32.ofNat k := by
  refine ⟨(x &&& m).toBitVec.toNat, ?_, ?_⟩
  · show (x.toBitVec &&& m.toBitVec).toNat < 2 ^ j
    rw [BitVec.toNat_and, hm, Nat.and_two_pow_sub_one_eq_mod]
    exact Nat.mod_lt _ (Nat.two_pow_pos j)
  · apply Int32.toBitVec_inj.mp
    show _ = BitVec.ofNat 32 _
    rw [BitVec.ofNat_toNat, BitVec.setWidth_eq]
theorem own_inj {i j : Nat} (hi : i < 2147483648) (hj : j < 2147483648) (h : Int32.ofNat i = Int32.ofNat j) : i = j := by
  have := congrArg Int32.toInt h
  rw [own_ti hi, own_ti hj] at this; omega
theorem own_I.hit {P n q : Nat} {F G V : Nat → Int32} {pts : Nat → Nat} {vals : Nat → Int32} (I : own_I P n F G V pts vals) {i : Nat} (hi : i < n) (h1 : pts i = q) (h2 : ∀ i', i' < i → pts i' ≠ q) : own_e F P q = Int32.ofNat i ∧ V i = vals i := by
  have hq : q < P := h1 ▸ I.2.1 i hi
  refine ⟨?_, I.1 i hi⟩
  unfold own_e
  rw [if_pos hq]
  rcases I.2.2.1 q hq with ⟨k, hk, k1, k2, k3⟩ | ⟨hno, -⟩
  · have : k = i := by
      rcases Nat.lt_trichotomy k i with z | z | z
      · exact absurd k1 (h2 k z)
      · exact z
      · exact absurd h1 (k2 i z)
    rw [k3, this]
  · exact absurd h1 (hno i hi)
theorem own_I.miss {P n q : Nat} {F G V : Nat → Int32} {pts : Nat → Nat} {vals : Nat → Int32} (I : own_I P n F G V pts vals) (h : ∀ i, i < n → pts i ≠ q) : own_e F P q = -1 := by
  unfold own_e
  by_cases hq : q < P
  · rw [if_pos hq]
    rcases I.2.2.1 q hq with ⟨k, hk, k1, -⟩ | ⟨-, r⟩
    · exact absurd k1 (h k hk)
    · exact r
  · rw [if_neg hq]
def own_pt (a b d : Nat) : Nat → Nat := fun i => if i = 0 then a else if i = 1 then b else d
def own_vl (a b d : Int32) : Nat → Int32 := fun i => if i = 0 then a else if i = 1 then b else d
theorem os0_4 {z0 : Value} {s1 : Slot} {s2 : Slot} {s3 : Slot} {z4 : Value} {z5 : Value} {s6 : Slot} {s7 : Slot} {s8 : Slot} {s9 : Slot} {s10 : Slot} {s11 : Slot} {s12 : Slot} {s13 : Slot} {s14 : Slot} {v : Int32} (h : One s6) : storeLocals #[.val z0, s1, s2, s3, .val z4, .val z5, s6, s7, s8, s9, s10, s11, s12, s13, s14] 6 (.int v) = some #[.val z0, s1, s2, s3, .val z4, .val z5, .val (.int v), s7, s8, s9, s10, s11, s12, s13, s14] := by
  rcases h with rfl | ⟨w, rfl, hw⟩
  · rfl
  · cases w <;> first | rfl | (simp [Value.category] at hw)
theorem os0_10 {z0 : Value} {s1 : Slot} {s2 : Slot} {s3 : Slot} {z4 : Value} {z5 : Value} {z6 : Value} {s7 : Slot} {s8 : Slot} {s9 : Slot} {s10 : Slot} {s11 : Slot} {s12 : Slot} {s13 : Slot} {s14 : Slot} {v : Int32} (h : One s7) : storeLocals #[.val z0, s1, s2, s3, .val z4, .val z5, .val z6, s7, s8, s9, s10, s11, s12, s13, s14] 7 (.int v) = some #[.val z0, s1, s2, s3, .val z4, .val z5, .val z6, .val (.int v), s8, s9, s10, s11, s12, s13, s14] := by
  rcases h with rfl | ⟨w, rfl, hw⟩
  · rfl
  · cases w <;> first | rfl | (simp [Value.category] at hw)
theorem os0_18 {z0 : Value} {s1 : Slot} {s2 : Slot} {s3 : Slot} {z4 : Value} {z5 : Value} {z6 : Value} {z7 : Value} {s8 : Slot} {s9 : Slot} {s10 : Slot} {s11 : Slot} {s12 : Slot} {s13 : Slot} {s14 : Slot} {v : Int32} (h : One s8) : storeLocals #[.val z0, s1, s2, s3, .val z4, .val z5, .val z6, .val z7, s8, s9, s10, s11, s12, s13, s14] 8 (.int v) = some #[.val z0, s1, s2, s3, .val z4, .val z5, .val z6, .val z7, .val (.int v), s9, s10, s11, s12, s13, s14] := by
  rcases h with rfl | ⟨w, rfl, hw⟩
  · rfl
  · cases w <;> first | rfl | (simp [Value.category] at hw)
theorem os0_27 {z0 : Value} {s1 : Slot} {s2 : Slot} {s3 : Slot} {z4 : Value} {z5 : Value} {z6 : Value} {z7 : Value} {z8 : Value} {s9 : Slot} {s10 : Slot} {s11 : Slot} {s12 : Slot} {s13 : Slot} {s14 : Slot} {v : Int32} (h : One s9) : storeLocals #[.val z0, s1, s2, s3, .val z4, .val z5, .val z6, .val z7, .val z8, s9, s10, s11, s12, s13, s14] 9 (.int v) = some #[.val z0, s1, s2, s3, .val z4, .val z5, .val z6, .val z7, .val z8, .val (.int v), s10, s11, s12, s13, s14] := by
  rcases h with rfl | ⟨w, rfl, hw⟩
  · rfl
  · cases w <;> first | rfl | (simp [Value.category] at hw)
theorem os0_49 {z0 : Value} {s1 : Slot} {s2 : Slot} {s3 : Slot} {z4 : Value} {z5 : Value} {z6 : Value} {z7 : Value} {z8 : Value} {z9 : Value} {s10 : Slot} {s11 : Slot} {s12 : Slot} {s13 : Slot} {s14 : Slot} {v : Int32} (h : One s10) : storeLocals #[.val z0, s1, s2, s3, .val z4, .val z5, .val z6, .val z7, .val z8, .val z9, s10, s11, s12, s13, s14] 10 (.int v) = some #[.val z0, s1, s2, s3, .val z4, .val z5, .val z6, .val z7, .val z8, .val z9, .val (.int v), s11, s12, s13, s14] := by
  rcases h with rfl | ⟨w, rfl, hw⟩
  · rfl
  · cases w <;> first | rfl | (simp [Value.category] at hw)
set_option maxRecDepth 65536 in
set_option maxHeartbeats 40000000 in
theorem own_b0 {p : Program} {l : Launch} {e : Env} {R : Room} {s : State} {m : MethodId} {args : Array Value} {below : List Frame} {meth : Method} {c : Code} {T0 : State} {locs : List Loc} {cells slots : Nat} {Z : State} {a0 : Array Value} {h0 : Heap} (i0 : Int32) (s1 : Slot) (s2 : Slot) (s3 : Slot) (i4 : Int32) (i5 : Int32)
    (X0 : Stand p l e R s m args below meth c T0 locs cells slots) (hx : p.tables.exec = Jvm.exec) (hZ : Z.Warmed39 s.vm) (hw : ∀ d ∈ tables_1, d.before a0 Z = true) (hby : c.code = code) (hml : c.maxLocals = 15) (hown : s.vm.findClass "com/example/redress/redress/definition/WaitersFirstPinLaw" = some m.cls) (e0 : T0.heap = h0) (hs6 : One .unset) (hs7 : One .unset) (hs8 : One .unset) (hs9 : One .unset) (hs10 : One .unset) (hc33 : ¬ ((i5 &&& (4 : Int32)) = (0 : Int32))) :
    ∃ (T' : State), Stand p l e R s m args below meth c T' locs cells slots ∧ T'.heap = h0 ∧
      ∀ target, Steps p.tables e below (T'.setTop (mkF m 51 #[.val (.int i0), s1, s2, s3, .val (.int i4), .val (.int i5), .val (.int (i5 &&& (3 : Int32))), .val (.int (i0 &&& (15 : Int32))), .val (.int (((i0.toUInt32 >>> ((4 : Int32) &&& 31).toUInt32).toInt32) &&& (15 : Int32))), .val (.int (((i0.toUInt32 >>> ((8 : Int32) &&& 31).toUInt32).toInt32) &&& (15 : Int32))), .val (.int (i4 &&& (2147483647 : Int32))), .unset, .unset, .unset, .unset] [])) target → Steps p.tables e below (T0.setTop (mkF m 0 #[.val (.int i0), s1, s2, s3, .val (.int i4), .val (.int i5), .unset, .unset, .unset, .unset, .unset, .unset, .unset, .unset, .unset] [])) target := by

  refine ⟨T0, X0, e0, fun target kt => ?_⟩
  show Steps p.tables e below (T0.setTop (mkF m 0 #[.val (.int i0), s1, s2, s3, .val (.int i4), .val (.int i5), .unset, .unset, .unset, .unset, .unset, .unset, .unset, .unset, .unset] [])) _
  refine XS.iload X0.here hx rfl (hb hby at_0) rfl ?_
  show Steps p.tables e below (T0.setTop (mkF m 2 #[.val (.int i0), s1, s2, s3, .val (.int i4), .val (.int i5), .unset, .unset, .unset, .unset, .unset, .unset, .unset, .unset, .unset] [(.int i5)])) _
  refine XS.iconst X0.here hx rfl (hb hby at_2) ?_
  show Steps p.tables e below (T0.setTop (mkF m 3 #[.val (.int i0), s1, s2, s3, .val (.int i4), .val (.int i5), .unset, .unset, .unset, .unset, .unset, .unset, .unset, .unset, .unset] [(.int (3 : Int32)), (.int i5)])) _
  refine XS.iand X0.here hx rfl (hb hby at_3) rfl ?_
  show Steps p.tables e below (T0.setTop (mkF m 4 #[.val (.int i0), s1, s2, s3, .val (.int i4), .val (.int i5), .unset, .unset, .unset, .unset, .unset, .unset, .unset, .unset, .unset] [(.int (i5 &&& (3 : Int32)))])) _
  refine XS.istore X0.here hx rfl (hb hby at_4) rfl (l' := #[.val (.int i0), s1, s2, s3, .val (.int i4), .val (.int i5), .val (.int (i5 &&& (3 : Int32))), .unset, .unset, .unset, .unset, .unset, .unset, .unset, .unset]) (os0_4 hs6) ?_
  show Steps p.tables e below (T0.setTop (mkF m 6 #[.val (.int i0), s1, s2, s3, .val (.int i4), .val (.int i5), .val (.int (i5 &&& (3 : Int32))), .unset, .unset, .unset, .unset, .unset, .unset, .unset, .unset] [])) _
  refine XS.iloadN X0.here hx rfl (hb hby at_6) rfl ?_
  show Steps p.tables e below (T0.setTop (mkF m 7 #[.val (.int i0), s1, s2, s3, .val (.int i4), .val (.int i5), .val (.int (i5 &&& (3 : Int32))), .unset, .unset, .unset, .unset, .unset, .unset, .unset, .unset] [(.int i0)])) _
  refine XS.bipush X0.here hx rfl (hb hby at_7) ?_
  show Steps p.tables e below (T0.setTop (mkF m 9 #[.val (.int i0), s1, s2, s3, .val (.int i4), .val (.int i5), .val (.int (i5 &&& (3 : Int32))), .unset, .unset, .unset, .unset, .unset, .unset, .unset, .unset] [(.int (15 : Int32)), (.int i0)])) _
  refine XS.iand X0.here hx rfl (hb hby at_9) rfl ?_
  show Steps p.tables e below (T0.setTop (mkF m 10 #[.val (.int i0), s1, s2, s3, .val (.int i4), .val (.int i5), .val (.int (i5 &&& (3 : Int32))), .unset, .unset, .unset, .unset, .unset, .unset, .unset, .unset] [(.int (i0 &&& (15 : Int32)))])) _
  refine XS.istore X0.here hx rfl (hb hby at_10) rfl (l' := #[.val (.int i0), s1, s2, s3, .val (.int i4), .val (.int i5), .val (.int (i5 &&& (3 : Int32))), .val (.int (i0 &&& (15 : Int32))), .unset, .unset, .unset, .unset, .unset, .unset, .unset]) (os0_10 hs7) ?_
  show Steps p.tables e below (T0.setTop (mkF m 12 #[.val (.int i0), s1, s2, s3, .val (.int i4), .val (.int i5), .val (.int (i5 &&& (3 : Int32))), .val (.int (i0 &&& (15 : Int32))), .unset, .unset, .unset, .unset, .unset, .unset, .unset] [])) _
  refine XS.iloadN X0.here hx rfl (hb hby at_12) rfl ?_
  show Steps p.tables e below (T0.setTop (mkF m 13 #[.val (.int i0), s1, s2, s3, .val (.int i4), .val (.int i5), .val (.int (i5 &&& (3 : Int32))), .val (.int (i0 &&& (15 : Int32))), .unset, .unset, .unset, .unset, .unset, .unset, .unset] [(.int i0)])) _
  refine XS.iconst X0.here hx rfl (hb hby at_13) ?_
  show Steps p.tables e below (T0.setTop (mkF m 14 #[.val (.int i0), s1, s2, s3, .val (.int i4), .val (.int i5), .val (.int (i5 &&& (3 : Int32))), .val (.int (i0 &&& (15 : Int32))), .unset, .unset, .unset, .unset, .unset, .unset, .unset] [(.int (4 : Int32)), (.int i0)])) _
  refine XS.iushr X0.here hx rfl (hb hby at_14) rfl ?_
  show Steps p.tables e below (T0.setTop (mkF m 15 #[.val (.int i0), s1, s2, s3, .val (.int i4), .val (.int i5), .val (.int (i5 &&& (3 : Int32))), .val (.int (i0 &&& (15 : Int32))), .unset, .unset, .unset, .unset, .unset, .unset, .unset] [(.int ((i0.toUInt32 >>> ((4 : Int32) &&& 31).toUInt32).toInt32))])) _
  refine XS.bipush X0.here hx rfl (hb hby at_15) ?_
  show Steps p.tables e below (T0.setTop (mkF m 17 #[.val (.int i0), s1, s2, s3, .val (.int i4), .val (.int i5), .val (.int (i5 &&& (3 : Int32))), .val (.int (i0 &&& (15 : Int32))), .unset, .unset, .unset, .unset, .unset, .unset, .unset] [(.int (15 : Int32)), (.int ((i0.toUInt32 >>> ((4 : Int32) &&& 31).toUInt32).toInt32))])) _
  refine XS.iand X0.here hx rfl (hb hby at_17) rfl ?_
  show Steps p.tables e below (T0.setTop (mkF m 18 #[.val (.int i0), s1, s2, s3, .val (.int i4), .val (.int i5), .val (.int (i5 &&& (3 : Int32))), .val (.int (i0 &&& (15 : Int32))), .unset, .unset, .unset, .unset, .unset, .unset, .unset] [(.int (((i0.toUInt32 >>> ((4 : Int32) &&& 31).toUInt32).toInt32) &&& (15 : Int32)))])) _
  refine XS.istore X0.here hx rfl (hb hby at_18) rfl (l' := #[.val (.int i0), s1, s2, s3, .val (.int i4), .val (.int i5), .val (.int (i5 &&& (3 : Int32))), .val (.int (i0 &&& (15 : Int32))), .val (.int (((i0.toUInt32 >>> ((4 : Int32) &&& 31).toUInt32).toInt32) &&& (15 : Int32))), .unset, .unset, .unset, .unset, .unset, .unset]) (os0_18 hs8) ?_
  show Steps p.tables e below (T0.setTop (mkF m 20 #[.val (.int i0), s1, s2, s3, .val (.int i4), .val (.int i5), .val (.int (i5 &&& (3 : Int32))), .val (.int (i0 &&& (15 : Int32))), .val (.int (((i0.toUInt32 >>> ((4 : Int32) &&& 31).toUInt32).toInt32) &&& (15 : Int32))), .unset, .unset, .unset, .unset, .unset, .unset] [])) _
  refine XS.iloadN X0.here hx rfl (hb hby at_20) rfl ?_
  show Steps p.tables e below (T0.setTop (mkF m 21 #[.val (.int i0), s1, s2, s3, .val (.int i4), .val (.int i5), .val (.int (i5 &&& (3 : Int32))), .val (.int (i0 &&& (15 : Int32))), .val (.int (((i0.toUInt32 >>> ((4 : Int32) &&& 31).toUInt32).toInt32) &&& (15 : Int32))), .unset, .unset, .unset, .unset, .unset, .unset] [(.int i0)])) _
  refine XS.bipush X0.here hx rfl (hb hby at_21) ?_
  show Steps p.tables e below (T0.setTop (mkF m 23 #[.val (.int i0), s1, s2, s3, .val (.int i4), .val (.int i5), .val (.int (i5 &&& (3 : Int32))), .val (.int (i0 &&& (15 : Int32))), .val (.int (((i0.toUInt32 >>> ((4 : Int32) &&& 31).toUInt32).toInt32) &&& (15 : Int32))), .unset, .unset, .unset, .unset, .unset, .unset] [(.int (8 : Int32)), (.int i0)])) _
  refine XS.iushr X0.here hx rfl (hb hby at_23) rfl ?_
  show Steps p.tables e below (T0.setTop (mkF m 24 #[.val (.int i0), s1, s2, s3, .val (.int i4), .val (.int i5), .val (.int (i5 &&& (3 : Int32))), .val (.int (i0 &&& (15 : Int32))), .val (.int (((i0.toUInt32 >>> ((4 : Int32) &&& 31).toUInt32).toInt32) &&& (15 : Int32))), .unset, .unset, .unset, .unset, .unset, .unset] [(.int ((i0.toUInt32 >>> ((8 : Int32) &&& 31).toUInt32).toInt32))])) _
  refine XS.bipush X0.here hx rfl (hb hby at_24) ?_
  show Steps p.tables e below (T0.setTop (mkF m 26 #[.val (.int i0), s1, s2, s3, .val (.int i4), .val (.int i5), .val (.int (i5 &&& (3 : Int32))), .val (.int (i0 &&& (15 : Int32))), .val (.int (((i0.toUInt32 >>> ((4 : Int32) &&& 31).toUInt32).toInt32) &&& (15 : Int32))), .unset, .unset, .unset, .unset, .unset, .unset] [(.int (15 : Int32)), (.int ((i0.toUInt32 >>> ((8 : Int32) &&& 31).toUInt32).toInt32))])) _
  refine XS.iand X0.here hx rfl (hb hby at_26) rfl ?_
  show Steps p.tables e below (T0.setTop (mkF m 27 #[.val (.int i0), s1, s2, s3, .val (.int i4), .val (.int i5), .val (.int (i5 &&& (3 : Int32))), .val (.int (i0 &&& (15 : Int32))), .val (.int (((i0.toUInt32 >>> ((4 : Int32) &&& 31).toUInt32).toInt32) &&& (15 : Int32))), .unset, .unset, .unset, .unset, .unset, .unset] [(.int (((i0.toUInt32 >>> ((8 : Int32) &&& 31).toUInt32).toInt32) &&& (15 : Int32)))])) _
  refine XS.istore X0.here hx rfl (hb hby at_27) rfl (l' := #[.val (.int i0), s1, s2, s3, .val (.int i4), .val (.int i5), .val (.int (i5 &&& (3 : Int32))), .val (.int (i0 &&& (15 : Int32))), .val (.int (((i0.toUInt32 >>> ((4 : Int32) &&& 31).toUInt32).toInt32) &&& (15 : Int32))), .val (.int (((i0.toUInt32 >>> ((8 : Int32) &&& 31).toUInt32).toInt32) &&& (15 : Int32))), .unset, .unset, .unset, .unset, .unset]) (os0_27 hs9) ?_
  show Steps p.tables e below (T0.setTop (mkF m 29 #[.val (.int i0), s1, s2, s3, .val (.int i4), .val (.int i5), .val (.int (i5 &&& (3 : Int32))), .val (.int (i0 &&& (15 : Int32))), .val (.int (((i0.toUInt32 >>> ((4 : Int32) &&& 31).toUInt32).toInt32) &&& (15 : Int32))), .val (.int (((i0.toUInt32 >>> ((8 : Int32) &&& 31).toUInt32).toInt32) &&& (15 : Int32))), .unset, .unset, .unset, .unset, .unset] [])) _
  refine XS.iload X0.here hx rfl (hb hby at_29) rfl ?_
  show Steps p.tables e below (T0.setTop (mkF m 31 #[.val (.int i0), s1, s2, s3, .val (.int i4), .val (.int i5), .val (.int (i5 &&& (3 : Int32))), .val (.int (i0 &&& (15 : Int32))), .val (.int (((i0.toUInt32 >>> ((4 : Int32) &&& 31).toUInt32).toInt32) &&& (15 : Int32))), .val (.int (((i0.toUInt32 >>> ((8 : Int32) &&& 31).toUInt32).toInt32) &&& (15 : Int32))), .unset, .unset, .unset, .unset, .unset] [(.int i5)])) _
  refine XS.iconst X0.here hx rfl (hb hby at_31) ?_
  show Steps p.tables e below (T0.setTop (mkF m 32 #[.val (.int i0), s1, s2, s3, .val (.int i4), .val (.int i5), .val (.int (i5 &&& (3 : Int32))), .val (.int (i0 &&& (15 : Int32))), .val (.int (((i0.toUInt32 >>> ((4 : Int32) &&& 31).toUInt32).toInt32) &&& (15 : Int32))), .val (.int (((i0.toUInt32 >>> ((8 : Int32) &&& 31).toUInt32).toInt32) &&& (15 : Int32))), .unset, .unset, .unset, .unset, .unset] [(.int (4 : Int32)), (.int i5)])) _
  refine XS.iand X0.here hx rfl (hb hby at_32) rfl ?_
  show Steps p.tables e below (T0.setTop (mkF m 33 #[.val (.int i0), s1, s2, s3, .val (.int i4), .val (.int i5), .val (.int (i5 &&& (3 : Int32))), .val (.int (i0 &&& (15 : Int32))), .val (.int (((i0.toUInt32 >>> ((4 : Int32) &&& 31).toUInt32).toInt32) &&& (15 : Int32))), .val (.int (((i0.toUInt32 >>> ((8 : Int32) &&& 31).toUInt32).toInt32) &&& (15 : Int32))), .unset, .unset, .unset, .unset, .unset] [(.int (i5 &&& (4 : Int32)))])) _
  refine XS.ifNo X0.here hx rfl (hb hby at_33) rfl ((if0 _ _).trans (feq hc33).1) ?_
  show Steps p.tables e below (T0.setTop (mkF m 36 #[.val (.int i0), s1, s2, s3, .val (.int i4), .val (.int i5), .val (.int (i5 &&& (3 : Int32))), .val (.int (i0 &&& (15 : Int32))), .val (.int (((i0.toUInt32 >>> ((4 : Int32) &&& 31).toUInt32).toInt32) &&& (15 : Int32))), .val (.int (((i0.toUInt32 >>> ((8 : Int32) &&& 31).toUInt32).toInt32) &&& (15 : Int32))), .unset, .unset, .unset, .unset, .unset] [])) _
  refine XS.iload X0.here hx rfl (hb hby at_36) rfl ?_
  show Steps p.tables e below (T0.setTop (mkF m 38 #[.val (.int i0), s1, s2, s3, .val (.int i4), .val (.int i5), .val (.int (i5 &&& (3 : Int32))), .val (.int (i0 &&& (15 : Int32))), .val (.int (((i0.toUInt32 >>> ((4 : Int32) &&& 31).toUInt32).toInt32) &&& (15 : Int32))), .val (.int (((i0.toUInt32 >>> ((8 : Int32) &&& 31).toUInt32).toInt32) &&& (15 : Int32))), .unset, .unset, .unset, .unset, .unset] [(.int i4)])) _
  refine X0.ldcInt hx hown (mvT hZ (hw _ (List.mem_of_getElem? (i := 56) rfl))) (g := (mkF m 38 #[.val (.int i0), s1, s2, s3, .val (.int i4), .val (.int i5), .val (.int (i5 &&& (3 : Int32))), .val (.int (i0 &&& (15 : Int32))), .val (.int (((i0.toUInt32 >>> ((4 : Int32) &&& 31).toUInt32).toInt32) &&& (15 : Int32))), .val (.int (((i0.toUInt32 >>> ((8 : Int32) &&& 31).toUInt32).toInt32) &&& (15 : Int32))), .unset, .unset, .unset, .unset, .unset] [(.int i4)])) rfl (hb hby at_38) _ ?_
  show Steps p.tables e below (T0.setTop (mkF m 40 #[.val (.int i0), s1, s2, s3, .val (.int i4), .val (.int i5), .val (.int (i5 &&& (3 : Int32))), .val (.int (i0 &&& (15 : Int32))), .val (.int (((i0.toUInt32 >>> ((4 : Int32) &&& 31).toUInt32).toInt32) &&& (15 : Int32))), .val (.int (((i0.toUInt32 >>> ((8 : Int32) &&& 31).toUInt32).toInt32) &&& (15 : Int32))), .unset, .unset, .unset, .unset, .unset] [(.int (2147483647 : Int32)), (.int i4)])) _
  refine XS.iand X0.here hx rfl (hb hby at_40) rfl ?_
  show Steps p.tables e below (T0.setTop (mkF m 41 #[.val (.int i0), s1, s2, s3, .val (.int i4), .val (.int i5), .val (.int (i5 &&& (3 : Int32))), .val (.int (i0 &&& (15 : Int32))), .val (.int (((i0.toUInt32 >>> ((4 : Int32) &&& 31).toUInt32).toInt32) &&& (15 : Int32))), .val (.int (((i0.toUInt32 >>> ((8 : Int32) &&& 31).toUInt32).toInt32) &&& (15 : Int32))), .unset, .unset, .unset, .unset, .unset] [(.int (i4 &&& (2147483647 : Int32)))])) _
  refine XS.goto X0.here hx rfl (pc0 := 41) (pc' := 49) rfl (hb hby at_41) (by decide) (by decide) ?_
  show Steps p.tables e below (T0.setTop (mkF m 49 #[.val (.int i0), s1, s2, s3, .val (.int i4), .val (.int i5), .val (.int (i5 &&& (3 : Int32))), .val (.int (i0 &&& (15 : Int32))), .val (.int (((i0.toUInt32 >>> ((4 : Int32) &&& 31).toUInt32).toInt32) &&& (15 : Int32))), .val (.int (((i0.toUInt32 >>> ((8 : Int32) &&& 31).toUInt32).toInt32) &&& (15 : Int32))), .unset, .unset, .unset, .unset, .unset] [(.int (i4 &&& (2147483647 : Int32)))])) _
  refine XS.istore X0.here hx rfl (hb hby at_49) rfl (l' := #[.val (.int i0), s1, s2, s3, .val (.int i4), .val (.int i5), .val (.int (i5 &&& (3 : Int32))), .val (.int (i0 &&& (15 : Int32))), .val (.int (((i0.toUInt32 >>> ((4 : Int32) &&& 31).toUInt32).toInt32) &&& (15 : Int32))), .val (.int (((i0.toUInt32 >>> ((8 : Int32) &&& 31).toUInt32).toInt32) &&& (15 : Int32))), .val (.int (i4 &&& (2147483647 : Int32))), .unset, .unset, .unset, .unset]) (os0_49 hs10) ?_
  exact kt
set_option maxRecDepth 65536 in
set_option maxHeartbeats 40000000 in
theorem own_b1 {p : Program} {l : Launch} {e : Env} {R : Room} {s : State} {m : MethodId} {args : Array Value} {below : List Frame} {meth : Method} {c : Code} {T0 : State} {locs : List Loc} {cells slots : Nat} {Z : State} {a0 : Array Value} {h0 : Heap} (i0 : Int32) (s1 : Slot) (s2 : Slot) (s3 : Slot) (i4 : Int32) (i5 : Int32)
    (X0 : Stand p l e R s m args below meth c T0 locs cells slots) (hx : p.tables.exec = Jvm.exec) (hZ : Z.Warmed39 s.vm) (hw : ∀ d ∈ tables_1, d.before a0 Z = true) (hby : c.code = code) (hml : c.maxLocals = 15) (hown : s.vm.findClass "com/example/redress/redress/definition/WaitersFirstPinLaw" = some m.cls) (e0 : T0.heap = h0) (hs6 : One .unset) (hs7 : One .unset) (hs8 : One .unset) (hs9 : One .unset) (hs10 : One .unset) (hc33 : (i5 &&& (4 : Int32)) = (0 : Int32)) :
    ∃ (T' : State), Stand p l e R s m args below meth c T' locs cells slots ∧ T'.heap = h0 ∧
      ∀ target, Steps p.tables e below (T'.setTop (mkF m 51 #[.val (.int i0), s1, s2, s3, .val (.int i4), .val (.int i5), .val (.int (i5 &&& (3 : Int32))), .val (.int (i0 &&& (15 : Int32))), .val (.int (((i0.toUInt32 >>> ((4 : Int32) &&& 31).toUInt32).toInt32) &&& (15 : Int32))), .val (.int (((i0.toUInt32 >>> ((8 : Int32) &&& 31).toUInt32).toInt32) &&& (15 : Int32))), .val (.int (i4 &&& (15 : Int32))), .unset, .unset, .unset, .unset] [])) target → Steps p.tables e below (T0.setTop (mkF m 0 #[.val (.int i0), s1, s2, s3, .val (.int i4), .val (.int i5), .unset, .unset, .unset, .unset, .unset, .unset, .unset, .unset, .unset] [])) target := by

  refine ⟨T0, X0, e0, fun target kt => ?_⟩
  show Steps p.tables e below (T0.setTop (mkF m 0 #[.val (.int i0), s1, s2, s3, .val (.int i4), .val (.int i5), .unset, .unset, .unset, .unset, .unset, .unset, .unset, .unset, .unset] [])) _
  refine XS.iload X0.here hx rfl (hb hby at_0) rfl ?_
  show Steps p.tables e below (T0.setTop (mkF m 2 #[.val (.int i0), s1, s2, s3, .val (.int i4), .val (.int i5), .unset, .unset, .unset, .unset, .unset, .unset, .unset, .unset, .unset] [(.int i5)])) _
  refine XS.iconst X0.here hx rfl (hb hby at_2) ?_
  show Steps p.tables e below (T0.setTop (mkF m 3 #[.val (.int i0), s1, s2, s3, .val (.int i4), .val (.int i5), .unset, .unset, .unset, .unset, .unset, .unset, .unset, .unset, .unset] [(.int (3 : Int32)), (.int i5)])) _
  refine XS.iand X0.here hx rfl (hb hby at_3) rfl ?_
  show Steps p.tables e below (T0.setTop (mkF m 4 #[.val (.int i0), s1, s2, s3, .val (.int i4), .val (.int i5), .unset, .unset, .unset, .unset, .unset, .unset, .unset, .unset, .unset] [(.int (i5 &&& (3 : Int32)))])) _
  refine XS.istore X0.here hx rfl (hb hby at_4) rfl (l' := #[.val (.int i0), s1, s2, s3, .val (.int i4), .val (.int i5), .val (.int (i5 &&& (3 : Int32))), .unset, .unset, .unset, .unset, .unset, .unset, .unset, .unset]) (os0_4 hs6) ?_
  show Steps p.tables e below (T0.setTop (mkF m 6 #[.val (.int i0), s1, s2, s3, .val (.int i4), .val (.int i5), .val (.int (i5 &&& (3 : Int32))), .unset, .unset, .unset, .unset, .unset, .unset, .unset, .unset] [])) _
  refine XS.iloadN X0.here hx rfl (hb hby at_6) rfl ?_
  show Steps p.tables e below (T0.setTop (mkF m 7 #[.val (.int i0), s1, s2, s3, .val (.int i4), .val (.int i5), .val (.int (i5 &&& (3 : Int32))), .unset, .unset, .unset, .unset, .unset, .unset, .unset, .unset] [(.int i0)])) _
  refine XS.bipush X0.here hx rfl (hb hby at_7) ?_
  show Steps p.tables e below (T0.setTop (mkF m 9 #[.val (.int i0), s1, s2, s3, .val (.int i4), .val (.int i5), .val (.int (i5 &&& (3 : Int32))), .unset, .unset, .unset, .unset, .unset, .unset, .unset, .unset] [(.int (15 : Int32)), (.int i0)])) _
  refine XS.iand X0.here hx rfl (hb hby at_9) rfl ?_
  show Steps p.tables e below (T0.setTop (mkF m 10 #[.val (.int i0), s1, s2, s3, .val (.int i4), .val (.int i5), .val (.int (i5 &&& (3 : Int32))), .unset, .unset, .unset, .unset, .unset, .unset, .unset, .unset] [(.int (i0 &&& (15 : Int32)))])) _
  refine XS.istore X0.here hx rfl (hb hby at_10) rfl (l' := #[.val (.int i0), s1, s2, s3, .val (.int i4), .val (.int i5), .val (.int (i5 &&& (3 : Int32))), .val (.int (i0 &&& (15 : Int32))), .unset, .unset, .unset, .unset, .unset, .unset, .unset]) (os0_10 hs7) ?_
  show Steps p.tables e below (T0.setTop (mkF m 12 #[.val (.int i0), s1, s2, s3, .val (.int i4), .val (.int i5), .val (.int (i5 &&& (3 : Int32))), .val (.int (i0 &&& (15 : Int32))), .unset, .unset, .unset, .unset, .unset, .unset, .unset] [])) _
  refine XS.iloadN X0.here hx rfl (hb hby at_12) rfl ?_
  show Steps p.tables e below (T0.setTop (mkF m 13 #[.val (.int i0), s1, s2, s3, .val (.int i4), .val (.int i5), .val (.int (i5 &&& (3 : Int32))), .val (.int (i0 &&& (15 : Int32))), .unset, .unset, .unset, .unset, .unset, .unset, .unset] [(.int i0)])) _
  refine XS.iconst X0.here hx rfl (hb hby at_13) ?_
  show Steps p.tables e below (T0.setTop (mkF m 14 #[.val (.int i0), s1, s2, s3, .val (.int i4), .val (.int i5), .val (.int (i5 &&& (3 : Int32))), .val (.int (i0 &&& (15 : Int32))), .unset, .unset, .unset, .unset, .unset, .unset, .unset] [(.int (4 : Int32)), (.int i0)])) _
  refine XS.iushr X0.here hx rfl (hb hby at_14) rfl ?_
  show Steps p.tables e below (T0.setTop (mkF m 15 #[.val (.int i0), s1, s2, s3, .val (.int i4), .val (.int i5), .val (.int (i5 &&& (3 : Int32))), .val (.int (i0 &&& (15 : Int32))), .unset, .unset, .unset, .unset, .unset, .unset, .unset] [(.int ((i0.toUInt32 >>> ((4 : Int32) &&& 31).toUInt32).toInt32))])) _
  refine XS.bipush X0.here hx rfl (hb hby at_15) ?_
  show Steps p.tables e below (T0.setTop (mkF m 17 #[.val (.int i0), s1, s2, s3, .val (.int i4), .val (.int i5), .val (.int (i5 &&& (3 : Int32))), .val (.int (i0 &&& (15 : Int32))), .unset, .unset, .unset, .unset, .unset, .unset, .unset] [(.int (15 : Int32)), (.int ((i0.toUInt32 >>> ((4 : Int32) &&& 31).toUInt32).toInt32))])) _
  refine XS.iand X0.here hx rfl (hb hby at_17) rfl ?_
  show Steps p.tables e below (T0.setTop (mkF m 18 #[.val (.int i0), s1, s2, s3, .val (.int i4), .val (.int i5), .val (.int (i5 &&& (3 : Int32))), .val (.int (i0 &&& (15 : Int32))), .unset, .unset, .unset, .unset, .unset, .unset, .unset] [(.int (((i0.toUInt32 >>> ((4 : Int32) &&& 31).toUInt32).toInt32) &&& (15 : Int32)))])) _
  refine XS.istore X0.here hx rfl (hb hby at_18) rfl (l' := #[.val (.int i0), s1, s2, s3, .val (.int i4), .val (.int i5), .val (.int (i5 &&& (3 : Int32))), .val (.int (i0 &&& (15 : Int32))), .val (.int (((i0.toUInt32 >>> ((4 : Int32) &&& 31).toUInt32).toInt32) &&& (15 : Int32))), .unset, .unset, .unset, .unset, .unset, .unset]) (os0_18 hs8) ?_
  show Steps p.tables e below (T0.setTop (mkF m 20 #[.val (.int i0), s1, s2, s3, .val (.int i4), .val (.int i5), .val (.int (i5 &&& (3 : Int32))), .val (.int (i0 &&& (15 : Int32))), .val (.int (((i0.toUInt32 >>> ((4 : Int32) &&& 31).toUInt32).toInt32) &&& (15 : Int32))), .unset, .unset, .unset, .unset, .unset, .unset] [])) _
  refine XS.iloadN X0.here hx rfl (hb hby at_20) rfl ?_
  show Steps p.tables e below (T0.setTop (mkF m 21 #[.val (.int i0), s1, s2, s3, .val (.int i4), .val (.int i5), .val (.int (i5 &&& (3 : Int32))), .val (.int (i0 &&& (15 : Int32))), .val (.int (((i0.toUInt32 >>> ((4 : Int32) &&& 31).toUInt32).toInt32) &&& (15 : Int32))), .unset, .unset, .unset, .unset, .unset, .unset] [(.int i0)])) _
  refine XS.bipush X0.here hx rfl (hb hby at_21) ?_
  show Steps p.tables e below (T0.setTop (mkF m 23 #[.val (.int i0), s1, s2, s3, .val (.int i4), .val (.int i5), .val (.int (i5 &&& (3 : Int32))), .val (.int (i0 &&& (15 : Int32))), .val (.int (((i0.toUInt32 >>> ((4 : Int32) &&& 31).toUInt32).toInt32) &&& (15 : Int32))), .unset, .unset, .unset, .unset, .unset, .unset] [(.int (8 : Int32)), (.int i0)])) _
  refine XS.iushr X0.here hx rfl (hb hby at_23) rfl ?_
  show Steps p.tables e below (T0.setTop (mkF m 24 #[.val (.int i0), s1, s2, s3, .val (.int i4), .val (.int i5), .val (.int (i5 &&& (3 : Int32))), .val (.int (i0 &&& (15 : Int32))), .val (.int (((i0.toUInt32 >>> ((4 : Int32) &&& 31).toUInt32).toInt32) &&& (15 : Int32))), .unset, .unset, .unset, .unset, .unset, .unset] [(.int ((i0.toUInt32 >>> ((8 : Int32) &&& 31).toUInt32).toInt32))])) _
  refine XS.bipush X0.here hx rfl (hb hby at_24) ?_
  show Steps p.tables e below (T0.setTop (mkF m 26 #[.val (.int i0), s1, s2, s3, .val (.int i4), .val (.int i5), .val (.int (i5 &&& (3 : Int32))), .val (.int (i0 &&& (15 : Int32))), .val (.int (((i0.toUInt32 >>> ((4 : Int32) &&& 31).toUInt32).toInt32) &&& (15 : Int32))), .unset, .unset, .unset, .unset, .unset, .unset] [(.int (15 : Int32)), (.int ((i0.toUInt32 >>> ((8 : Int32) &&& 31).toUInt32).toInt32))])) _
  refine XS.iand X0.here hx rfl (hb hby at_26) rfl ?_
  show Steps p.tables e below (T0.setTop (mkF m 27 #[.val (.int i0), s1, s2, s3, .val (.int i4), .val (.int i5), .val (.int (i5 &&& (3 : Int32))), .val (.int (i0 &&& (15 : Int32))), .val (.int (((i0.toUInt32 >>> ((4 : Int32) &&& 31).toUInt32).toInt32) &&& (15 : Int32))), .unset, .unset, .unset, .unset, .unset, .unset] [(.int (((i0.toUInt32 >>> ((8 : Int32) &&& 31).toUInt32).toInt32) &&& (15 : Int32)))])) _
  refine XS.istore X0.here hx rfl (hb hby at_27) rfl (l' := #[.val (.int i0), s1, s2, s3, .val (.int i4), .val (.int i5), .val (.int (i5 &&& (3 : Int32))), .val (.int (i0 &&& (15 : Int32))), .val (.int (((i0.toUInt32 >>> ((4 : Int32) &&& 31).toUInt32).toInt32) &&& (15 : Int32))), .val (.int (((i0.toUInt32 >>> ((8 : Int32) &&& 31).toUInt32).toInt32) &&& (15 : Int32))), .unset, .unset, .unset, .unset, .unset]) (os0_27 hs9) ?_
  show Steps p.tables e below (T0.setTop (mkF m 29 #[.val (.int i0), s1, s2, s3, .val (.int i4), .val (.int i5), .val (.int (i5 &&& (3 : Int32))), .val (.int (i0 &&& (15 : Int32))), .val (.int (((i0.toUInt32 >>> ((4 : Int32) &&& 31).toUInt32).toInt32) &&& (15 : Int32))), .val (.int (((i0.toUInt32 >>> ((8 : Int32) &&& 31).toUInt32).toInt32) &&& (15 : Int32))), .unset, .unset, .unset, .unset, .unset] [])) _
  refine XS.iload X0.here hx rfl (hb hby at_29) rfl ?_
  show Steps p.tables e below (T0.setTop (mkF m 31 #[.val (.int i0), s1, s2, s3, .val (.int i4), .val (.int i5), .val (.int (i5 &&& (3 : Int32))), .val (.int (i0 &&& (15 : Int32))), .val (.int (((i0.toUInt32 >>> ((4 : Int32) &&& 31).toUInt32).toInt32) &&& (15 : Int32))), .val (.int (((i0.toUInt32 >>> ((8 : Int32) &&& 31).toUInt32).toInt32) &&& (15 : Int32))), .unset, .unset, .unset, .unset, .unset] [(.int i5)])) _
  refine XS.iconst X0.here hx rfl (hb hby at_31) ?_
  show Steps p.tables e below (T0.setTop (mkF m 32 #[.val (.int i0), s1, s2, s3, .val (.int i4), .val (.int i5), .val (.int (i5 &&& (3 : Int32))), .val (.int (i0 &&& (15 : Int32))), .val (.int (((i0.toUInt32 >>> ((4 : Int32) &&& 31).toUInt32).toInt32) &&& (15 : Int32))), .val (.int (((i0.toUInt32 >>> ((8 : Int32) &&& 31).toUInt32).toInt32) &&& (15 : Int32))), .unset, .unset, .unset, .unset, .unset] [(.int (4 : Int32)), (.int i5)])) _
  refine XS.iand X0.here hx rfl (hb hby at_32) rfl ?_
  show Steps p.tables e below (T0.setTop (mkF m 33 #[.val (.int i0), s1, s2, s3, .val (.int i4), .val (.int i5), .val (.int (i5 &&& (3 : Int32))), .val (.int (i0 &&& (15 : Int32))), .val (.int (((i0.toUInt32 >>> ((4 : Int32) &&& 31).toUInt32).toInt32) &&& (15 : Int32))), .val (.int (((i0.toUInt32 >>> ((8 : Int32) &&& 31).toUInt32).toInt32) &&& (15 : Int32))), .unset, .unset, .unset, .unset, .unset] [(.int (i5 &&& (4 : Int32)))])) _
  refine XS.ifYes X0.here hx rfl (pc0 := 33) (pc' := 44) rfl (hb hby at_33) rfl ((if0 _ _).trans (teq hc33).1) (by decide) (by decide) ?_
  show Steps p.tables e below (T0.setTop (mkF m 44 #[.val (.int i0), s1, s2, s3, .val (.int i4), .val (.int i5), .val (.int (i5 &&& (3 : Int32))), .val (.int (i0 &&& (15 : Int32))), .val (.int (((i0.toUInt32 >>> ((4 : Int32) &&& 31).toUInt32).toInt32) &&& (15 : Int32))), .val (.int (((i0.toUInt32 >>> ((8 : Int32) &&& 31).toUInt32).toInt32) &&& (15 : Int32))), .unset, .unset, .unset, .unset, .unset] [])) _
  refine XS.iload X0.here hx rfl (hb hby at_44) rfl ?_
  show Steps p.tables e below (T0.setTop (mkF m 46 #[.val (.int i0), s1, s2, s3, .val (.int i4), .val (.int i5), .val (.int (i5 &&& (3 : Int32))), .val (.int (i0 &&& (15 : Int32))), .val (.int (((i0.toUInt32 >>> ((4 : Int32) &&& 31).toUInt32).toInt32) &&& (15 : Int32))), .val (.int (((i0.toUInt32 >>> ((8 : Int32) &&& 31).toUInt32).toInt32) &&& (15 : Int32))), .unset, .unset, .unset, .unset, .unset] [(.int i4)])) _
  refine XS.bipush X0.here hx rfl (hb hby at_46) ?_
  show Steps p.tables e below (T0.setTop (mkF m 48 #[.val (.int i0), s1, s2, s3, .val (.int i4), .val (.int i5), .val (.int (i5 &&& (3 : Int32))), .val (.int (i0 &&& (15 : Int32))), .val (.int (((i0.toUInt32 >>> ((4 : Int32) &&& 31).toUInt32).toInt32) &&& (15 : Int32))), .val (.int (((i0.toUInt32 >>> ((8 : Int32) &&& 31).toUInt32).toInt32) &&& (15 : Int32))), .unset, .unset, .unset, .unset, .unset] [(.int (15 : Int32)), (.int i4)])) _
  refine XS.iand X0.here hx rfl (hb hby at_48) rfl ?_
  show Steps p.tables e below (T0.setTop (mkF m 49 #[.val (.int i0), s1, s2, s3, .val (.int i4), .val (.int i5), .val (.int (i5 &&& (3 : Int32))), .val (.int (i0 &&& (15 : Int32))), .val (.int (((i0.toUInt32 >>> ((4 : Int32) &&& 31).toUInt32).toInt32) &&& (15 : Int32))), .val (.int (((i0.toUInt32 >>> ((8 : Int32) &&& 31).toUInt32).toInt32) &&& (15 : Int32))), .unset, .unset, .unset, .unset, .unset] [(.int (i4 &&& (15 : Int32)))])) _
  refine XS.istore X0.here hx rfl (hb hby at_49) rfl (l' := #[.val (.int i0), s1, s2, s3, .val (.int i4), .val (.int i5), .val (.int (i5 &&& (3 : Int32))), .val (.int (i0 &&& (15 : Int32))), .val (.int (((i0.toUInt32 >>> ((4 : Int32) &&& 31).toUInt32).toInt32) &&& (15 : Int32))), .val (.int (((i0.toUInt32 >>> ((8 : Int32) &&& 31).toUInt32).toInt32) &&& (15 : Int32))), .val (.int (i4 &&& (15 : Int32))), .unset, .unset, .unset, .unset]) (os0_49 hs10) ?_
  exact kt
theorem pd_0_0 : parseMethodDescriptor "()V" = some ⟨[], none⟩ := by decide +kernel
theorem os0_58 {s0 : Slot} {s1 : Slot} {s2 : Slot} {s3 : Slot} {s4 : Slot} {s5 : Slot} {s6 : Slot} {s7 : Slot} {s8 : Slot} {s9 : Slot} {s10 : Slot} {s11 : Slot} {s12 : Slot} {s13 : Slot} {s14 : Slot} {v : Addr} (h : One s11) : storeLocals #[s0, s1, s2, s3, s4, s5, s6, s7, s8, s9, s10, s11, s12, s13, s14] 11 (.ref v) = some #[s0, s1, s2, s3, s4, s5, s6, s7, s8, s9, s10, .val (.ref v), s12, s13, s14] := by
  rcases h with rfl | ⟨w, rfl, hw⟩
  · rfl
  · cases w <;> first | rfl | (simp [Value.category] at hw)
set_option maxRecDepth 65536 in
set_option maxHeartbeats 40000000 in
theorem tn0_51_60 {p : Program} {l : Launch} {e : Env} {s : State} {m : MethodId} {args : Array Value} {below : List Frame} {meth : Method} {c : Code} {T0 : State} {locs : List Loc} {Z : State} {a0 : Array Value} {h0 : Heap} {n0 : Nat} (s0 : Slot) (s1 : Slot) (s2 : Slot) (s3 : Slot) (s4 : Slot) (s5 : Slot) (s6 : Slot) (s7 : Slot) (s8 : Slot) (s9 : Slot) (s10 : Slot)
    (X0 : Stand p l e room_1 s m args below meth c T0 locs 0 0) (hx : p.tables.exec = Jvm.exec) (hZ : Z.Warmed39 s.vm) (hw : ∀ d ∈ tables_1, d.before a0 Z = true) (hby : c.code = code) (hml : c.maxLocals = 15) (hown : s.vm.findClass "com/example/redress/redress/definition/WaitersFirstPinLaw" = some m.cls) (e0 : T0.heap = h0) (N0 : Fr n0 locs) (Z0 : n0 ≤ h0.size) (hs11 : One .unset) :
    ∃ (b7 : Addr) (T' : State) (h' : Heap) (locs' : List Loc), Stand p l e room_1 s m args below meth c T' locs' 5 5 ∧ T'.heap = h' ∧ Fr n0 locs' ∧ n0 ≤ h'.size ∧ (∃ fA lA wA xA : Addr, own_W Z n0 h' b7 fA lA wA xA 0 0 0 0 0 (fun _ => 0) (fun _ => 0) (fun _ => 0) (fun _ => 0)) ∧
      ∀ target, Steps p.tables e below (T'.setTop (mkF m 60 #[s0, s1, s2, s3, s4, s5, s6, s7, s8, s9, s10, .val (.ref b7), .unset, .unset, .unset] [])) target → Steps p.tables e below (T0.setTop (mkF m 51 #[s0, s1, s2, s3, s4, s5, s6, s7, s8, s9, s10, .unset, .unset, .unset, .unset] [])) target := by
  obtain ⟨T7, h7, X7, e7, E7, A7, D7, -, st7⟩ := newO X0 hx hZ hown (hw _ (List.mem_of_getElem? (i := 0) rfl)) (hw _ (List.mem_of_getElem? (i := 1) rfl)) (hw _ (List.mem_of_getElem? (i := 2) rfl)) e0 (g := (mkF m 51 #[s0, s1, s2, s3, s4, s5, s6, s7, s8, s9, s10, .unset, .unset, .unset, .unset] [])) rfl (hb hby at_51) (by decide) (by decide)
  obtain ⟨b7, g7⟩ : ∃ z, z = h0.size := ⟨_, rfl⟩
  rw [← g7] at A7 D7 st7
  have F_firsts_b7 : Fld Z h7 b7 "com/example/redress/redress/definition/Waiters" "firsts" "[I" .null := D7 (Or.inl (hw _ (List.mem_of_getElem? (i := 11) rfl))) (ty := (.array .int)) (by decide)
  have F_lasts_b7 : Fld Z h7 b7 "com/example/redress/redress/definition/Waiters" "lasts" "[I" .null := D7 (Or.inl (hw _ (List.mem_of_getElem? (i := 13) rfl))) (ty := (.array .int)) (by decide)
  have F_waiters_b7 : Fld Z h7 b7 "com/example/redress/redress/definition/Waiters" "waiters" "[I" .null := D7 (Or.inl (hw _ (List.mem_of_getElem? (i := 15) rfl))) (ty := (.array .int)) (by decide)
  have F_nexts_b7 : Fld Z h7 b7 "com/example/redress/redress/definition/Waiters" "nexts" "[I" .null := D7 (Or.inl (hw _ (List.mem_of_getElem? (i := 17) rfl))) (ty := (.array .int)) (by decide)
  have F_entries_b7 : Fld Z h7 b7 "com/example/redress/redress/definition/Waiters" "entries" "I" (.int (0 : Int32)) := D7 (Or.inl (hw _ (List.mem_of_getElem? (i := 45) rfl))) (ty := .int) (by decide)
  have E_b7 := A7
  have g_b7 : n0 ≤ b7 := Nat.le_trans Z0 (Nat.le_of_eq g7.symm)
  have sz_b7 : h0.size ≤ b7 := (Nat.le_trans (Keep.refl h0 []).1 (Nat.le_of_eq g7.symm))
  have K7 : Keep h0 h7 [] := (Keep.refl h0 []).ext E7
  obtain ⟨_, _, ⟨T8, L8, k8, n8⟩, -, X8, ⟨Lc8, hQ8, l8, y8, z8⟩, st8⟩ := X7.specialBack hx (y := (⟨"com/example/redress/redress/definition/Waiters", "<init>", "()V"⟩ : MethodName)) rfl hown (mvT hZ (hw _ (List.mem_of_getElem? (i := 3) rfl))) (mvT hZ (hw _ (List.mem_of_getElem? (i := 4) rfl))) (mvT hZ (hw _ (List.mem_of_getElem? (i := 5) rfl))) (by decide) (backOf (W := 1) (rm1 l Z a0 hw [] b7 _ _ _ _ h7 n0 (Nat.le_trans Z0 K7.1) E_b7 F_firsts_b7 g_b7 F_lasts_b7 F_waiters_b7 F_nexts_b7 F_entries_b7) hZ (hw _ (List.mem_of_getElem? (i := 5) rfl)) (hw _ (List.mem_of_getElem? (i := 2) rfl)) (by decide) (by decide)) (g := (mkF m 55 #[s0, s1, s2, s3, s4, s5, s6, s7, s8, s9, s10, .unset, .unset, .unset, .unset] [(.ref b7), (.ref b7)])) rfl (by rw [hml]; rfl) (Steps.refl _) (a := b7) (argsL := []) (rest := [(.ref b7)]) (lenOf pd_0_0 rfl) rfl (by show 2 * 0 + _ ≤ _; exact Nat.le_of_eq rfl) (hb hby at_55) (fun _ _ => ⟨rfl, e7, (Nat.le_of_ble_eq_true rfl), (Nat.le_of_ble_eq_true rfl)⟩)
  dsimp only [Pt.U, Pt.locs, Pt.cells, Pt.slots] at X8 l8 y8 z8 st8 hQ8
  subst l8 y8 z8
  obtain ⟨rfl, N8q, K8, S8⟩ := hQ8
  have N8 := Fr.app N0 N8q
  refine ⟨b7, T8, _, _, X8, rfl, N8, (Nat.le_trans Z0 (Nat.le_trans K7.1 K8.1)), S8, fun target kt => ?_⟩
  show Steps p.tables e below (T0.setTop (mkF m 51 #[s0, s1, s2, s3, s4, s5, s6, s7, s8, s9, s10, .unset, .unset, .unset, .unset] [])) _
  refine st7 _ ?_
  show Steps p.tables e below (T7.setTop (mkF m 54 #[s0, s1, s2, s3, s4, s5, s6, s7, s8, s9, s10, .unset, .unset, .unset, .unset] [(.ref b7)])) _
  refine XS.dup X7.here hx rfl (hb hby at_54) rfl rfl ?_
  show Steps p.tables e below (T7.setTop (mkF m 55 #[s0, s1, s2, s3, s4, s5, s6, s7, s8, s9, s10, .unset, .unset, .unset, .unset] [(.ref b7), (.ref b7)])) _
  refine st8.trans ?_
  show Steps p.tables e below (T8.setTop (mkF m 58 #[s0, s1, s2, s3, s4, s5, s6, s7, s8, s9, s10, .unset, .unset, .unset, .unset] [(.ref b7)])) _
  refine XS.astore X8.here hx rfl (hb hby at_58) rfl rfl (l' := #[s0, s1, s2, s3, s4, s5, s6, s7, s8, s9, s10, .val (.ref b7), .unset, .unset, .unset]) (os0_58 hs11) ?_
  exact kt
theorem pd_0_1 : parseMethodDescriptor "(II)V" = some ⟨[.int, .int], none⟩ := by decide +kernel
set_option maxRecDepth 65536 in
set_option maxHeartbeats 40000000 in
theorem own_ad60 {p : Program} {l : Launch} {e : Env} {s : State} {m : MethodId} {args : Array Value} {below : List Frame} {meth : Method} {c : Code} {T0 : State} {locs : List Loc} {Z : State} {a0 : Array Value} {h0 : Heap} {n0 : Nat} (s0 : Slot) (i1 : Int32) (s2 : Slot) (s3 : Slot) (s4 : Slot) (s5 : Slot) (i6 : Int32) (s8 : Slot) (s9 : Slot) (s10 : Slot) (o11 : Addr) (s12 : Slot) (s13 : Slot) (s14 : Slot) (pp P n : Nat) (pts : Nat → Nat) (vals : Nat → Int32)
    (X0 : Stand p l e room_1 s m args below meth c T0 locs 5 5) (hx : p.tables.exec = Jvm.exec) (hZ : Z.Warmed39 s.vm) (hw : ∀ d ∈ tables_1, d.before a0 Z = true) (hby : c.code = code) (hml : c.maxLocals = 15) (hown : s.vm.findClass "com/example/redress/redress/definition/WaitersFirstPinLaw" = some m.cls) (e0 : T0.heap = h0) (N0 : Fr n0 locs) (Z0 : n0 ≤ h0.size) (E_o11 : Exa Z h0 o11 "com/example/redress/redress/definition/Waiters") (hc62 : (0 : Int32) < i6) (S : own_St Z n0 h0 o11 P n pts vals) (hp15 : pp ≤ 15) (hn2 : n ≤ 2) (ep : pts n = pp) (ev : vals n = i1) :
    ∃ (T' : State) (h' : Heap) (locs' : List Loc), Stand p l e room_1 s m args below meth c T' locs' 9 97 ∧ T'.heap = h' ∧ Fr n0 locs' ∧ n0 ≤ h'.size ∧ (∃ P', own_St Z n0 h' o11 P' (n + 1) pts vals) ∧
      ∀ target, Steps p.tables e below (T'.setTop (mkF m 73 #[s0, .val (.int i1), s2, s3, s4, s5, .val (.int i6), .val (.int (Int32.ofNat pp)), s8, s9, s10, .val (.ref o11), s12, s13, s14] [])) target → Steps p.tables e below (T0.setTop (mkF m 60 #[s0, .val (.int i1), s2, s3, s4, s5, .val (.int i6), .val (.int (Int32.ofNat pp)), s8, s9, s10, .val (.ref o11), s12, s13, s14] [])) target := by
  obtain ⟨cq7, kq7, q7a, q7b, q7c⟩ := isOf hZ e0 E_o11
  obtain ⟨_, _, ⟨T7, L7, k7, n7⟩, -, X7, ⟨Lc7, hQ7, l7, y7, z7⟩, st7⟩ := X0.virtualBack hx (y := (⟨"com/example/redress/redress/definition/Waiters", "add", "(II)V"⟩ : MethodName)) (z := (⟨"com/example/redress/redress/definition/Waiters", "add", "(II)V"⟩ : MethodName)) hown (mvT hZ (hw _ (List.mem_of_getElem? (i := 18) rfl))) (mvT hZ (hw _ (List.mem_of_getElem? (i := 19) rfl))) (notFace_of_selects (args := #[]) (mvT hZ (hw _ (List.mem_of_getElem? (i := 21) rfl)))) (mvT hZ (hw _ (List.mem_of_getElem? (i := 21) rfl))) (mvT hZ (hw _ (List.mem_of_getElem? (i := 20) rfl))) (by decide) (backOf (W := 0) (rm3 l Z a0 hw [] o11 pp i1 P n pts vals h0 n0 Z0 S hp15 hn2 ep ev) hZ (hw _ (List.mem_of_getElem? (i := 22) rfl)) (hw _ (List.mem_of_getElem? (i := 2) rfl)) (by decide) (by decide)) q7a q7c (g := (mkF m 70 #[s0, .val (.int i1), s2, s3, s4, s5, .val (.int i6), .val (.int (Int32.ofNat pp)), s8, s9, s10, .val (.ref o11), s12, s13, s14] [(.int i1), (.int (Int32.ofNat pp)), (.ref o11)])) rfl (by rw [hml]; rfl) (Steps.refl _) (argsL := [(.int (Int32.ofNat pp)), (.int i1)]) (rest := []) (lenOf pd_0_1 rfl) rfl (by show 2 * 0 + _ ≤ _; exact Nat.le_of_eq rfl) (hb hby at_70) (fun _ _ => ⟨rfl, e0, (Nat.le_of_ble_eq_true rfl), (Nat.le_of_ble_eq_true rfl)⟩)
  dsimp only [Pt.U, Pt.locs, Pt.cells, Pt.slots] at X7 l7 y7 z7 st7 hQ7
  subst l7 y7 z7
  obtain ⟨rfl, N7q, Z7, S7⟩ := hQ7
  have N7 := Fr.app N0 N7q
  refine ⟨T7, _, _, X7, rfl, N7, Z7, S7, fun target kt => ?_⟩
  show Steps p.tables e below (T0.setTop (mkF m 60 #[s0, .val (.int i1), s2, s3, s4, s5, .val (.int i6), .val (.int (Int32.ofNat pp)), s8, s9, s10, .val (.ref o11), s12, s13, s14] [])) _
  refine XS.iload X0.here hx rfl (hb hby at_60) rfl ?_
  show Steps p.tables e below (T0.setTop (mkF m 62 #[s0, .val (.int i1), s2, s3, s4, s5, .val (.int i6), .val (.int (Int32.ofNat pp)), s8, s9, s10, .val (.ref o11), s12, s13, s14] [(.int i6)])) _
  refine XS.ifNo X0.here hx rfl (hb hby at_62) rfl ((if0 _ _).trans (tlt hc62).2.2.2) ?_
  show Steps p.tables e below (T0.setTop (mkF m 65 #[s0, .val (.int i1), s2, s3, s4, s5, .val (.int i6), .val (.int (Int32.ofNat pp)), s8, s9, s10, .val (.ref o11), s12, s13, s14] [])) _
  refine XS.aload X0.here hx rfl (hb hby at_65) rfl rfl ?_
  show Steps p.tables e below (T0.setTop (mkF m 67 #[s0, .val (.int i1), s2, s3, s4, s5, .val (.int i6), .val (.int (Int32.ofNat pp)), s8, s9, s10, .val (.ref o11), s12, s13, s14] [(.ref o11)])) _
  refine XS.iload X0.here hx rfl (hb hby at_67) rfl ?_
  show Steps p.tables e below (T0.setTop (mkF m 69 #[s0, .val (.int i1), s2, s3, s4, s5, .val (.int i6), .val (.int (Int32.ofNat pp)), s8, s9, s10, .val (.ref o11), s12, s13, s14] [(.int (Int32.ofNat pp)), (.ref o11)])) _
  refine XS.iloadN X0.here hx rfl (hb hby at_69) rfl ?_
  show Steps p.tables e below (T0.setTop (mkF m 70 #[s0, .val (.int i1), s2, s3, s4, s5, .val (.int i6), .val (.int (Int32.ofNat pp)), s8, s9, s10, .val (.ref o11), s12, s13, s14] [(.int i1), (.int (Int32.ofNat pp)), (.ref o11)])) _
  refine st7.trans ?_
  exact kt
set_option maxRecDepth 65536 in
set_option maxHeartbeats 40000000 in
theorem own_sk60 {p : Program} {l : Launch} {e : Env} {R : Room} {s : State} {m : MethodId} {args : Array Value} {below : List Frame} {meth : Method} {c : Code} {T0 : State} {locs : List Loc} {cells slots : Nat} {Z : State} {a0 : Array Value} {h0 : Heap} (s0 : Slot) (s1 : Slot) (s2 : Slot) (s3 : Slot) (s4 : Slot) (s5 : Slot) (i6 : Int32) (s7 : Slot) (s8 : Slot) (s9 : Slot) (s10 : Slot) (s11 : Slot) (s12 : Slot) (s13 : Slot) (s14 : Slot)
    (X0 : Stand p l e R s m args below meth c T0 locs cells slots) (hx : p.tables.exec = Jvm.exec) (hZ : Z.Warmed39 s.vm) (hw : ∀ d ∈ tables_1, d.before a0 Z = true) (hby : c.code = code) (hml : c.maxLocals = 15) (hown : s.vm.findClass "com/example/redress/redress/definition/WaitersFirstPinLaw" = some m.cls) (e0 : T0.heap = h0) (hc62 : ¬ ((0 : Int32) < i6)) :
    ∃ (T' : State), Stand p l e R s m args below meth c T' locs cells slots ∧ T'.heap = h0 ∧
      ∀ target, Steps p.tables e below (T'.setTop (mkF m 73 #[s0, s1, s2, s3, s4, s5, .val (.int i6), s7, s8, s9, s10, s11, s12, s13, s14] [])) target → Steps p.tables e below (T0.setTop (mkF m 60 #[s0, s1, s2, s3, s4, s5, .val (.int i6), s7, s8, s9, s10, s11, s12, s13, s14] [])) target := by

  refine ⟨T0, X0, e0, fun target kt => ?_⟩
  show Steps p.tables e below (T0.setTop (mkF m 60 #[s0, s1, s2, s3, s4, s5, .val (.int i6), s7, s8, s9, s10, s11, s12, s13, s14] [])) _
  refine XS.iload X0.here hx rfl (hb hby at_60) rfl ?_
  show Steps p.tables e below (T0.setTop (mkF m 62 #[s0, s1, s2, s3, s4, s5, .val (.int i6), s7, s8, s9, s10, s11, s12, s13, s14] [(.int i6)])) _
  refine XS.ifYes X0.here hx rfl (pc0 := 62) (pc' := 73) rfl (hb hby at_62) rfl ((if0 _ _).trans (flt hc62).2.2.2) (by decide) (by decide) ?_
  exact kt
set_option maxRecDepth 65536 in
set_option maxHeartbeats 40000000 in
theorem own_ad73 {p : Program} {l : Launch} {e : Env} {s : State} {m : MethodId} {args : Array Value} {below : List Frame} {meth : Method} {c : Code} {T0 : State} {locs : List Loc} {Z : State} {a0 : Array Value} {h0 : Heap} {n0 : Nat} (s0 : Slot) (s1 : Slot) (i2 : Int32) (s3 : Slot) (s4 : Slot) (s5 : Slot) (i6 : Int32) (s7 : Slot) (s9 : Slot) (s10 : Slot) (o11 : Addr) (s12 : Slot) (s13 : Slot) (s14 : Slot) (pp P n : Nat) (pts : Nat → Nat) (vals : Nat → Int32)
    (X0 : Stand p l e room_1 s m args below meth c T0 locs 9 97) (hx : p.tables.exec = Jvm.exec) (hZ : Z.Warmed39 s.vm) (hw : ∀ d ∈ tables_1, d.before a0 Z = true) (hby : c.code = code) (hml : c.maxLocals = 15) (hown : s.vm.findClass "com/example/redress/redress/definition/WaitersFirstPinLaw" = some m.cls) (e0 : T0.heap = h0) (N0 : Fr n0 locs) (Z0 : n0 ≤ h0.size) (E_o11 : Exa Z h0 o11 "com/example/redress/redress/definition/Waiters") (hc76 : (1 : Int32) < i6) (S : own_St Z n0 h0 o11 P n pts vals) (hp15 : pp ≤ 15) (hn2 : n ≤ 2) (ep : pts n = pp) (ev : vals n = i2) :
    ∃ (T' : State) (h' : Heap) (locs' : List Loc), Stand p l e room_1 s m args below meth c T' locs' 13 189 ∧ T'.heap = h' ∧ Fr n0 locs' ∧ n0 ≤ h'.size ∧ (∃ P', own_St Z n0 h' o11 P' (n + 1) pts vals) ∧
      ∀ target, Steps p.tables e below (T'.setTop (mkF m 87 #[s0, s1, .val (.int i2), s3, s4, s5, .val (.int i6), s7, .val (.int (Int32.ofNat pp)), s9, s10, .val (.ref o11), s12, s13, s14] [])) target → Steps p.tables e below (T0.setTop (mkF m 73 #[s0, s1, .val (.int i2), s3, s4, s5, .val (.int i6), s7, .val (.int (Int32.ofNat pp)), s9, s10, .val (.ref o11), s12, s13, s14] [])) target := by
  obtain ⟨cq7, kq7, q7a, q7b, q7c⟩ := isOf hZ e0 E_o11
  obtain ⟨_, _, ⟨T7, L7, k7, n7⟩, -, X7, ⟨Lc7, hQ7, l7, y7, z7⟩, st7⟩ := X0.virtualBack hx (y := (⟨"com/example/redress/redress/definition/Waiters", "add", "(II)V"⟩ : MethodName)) (z := (⟨"com/example/redress/redress/definition/Waiters", "add", "(II)V"⟩ : MethodName)) hown (mvT hZ (hw _ (List.mem_of_getElem? (i := 18) rfl))) (mvT hZ (hw _ (List.mem_of_getElem? (i := 19) rfl))) (notFace_of_selects (args := #[]) (mvT hZ (hw _ (List.mem_of_getElem? (i := 21) rfl)))) (mvT hZ (hw _ (List.mem_of_getElem? (i := 21) rfl))) (mvT hZ (hw _ (List.mem_of_getElem? (i := 20) rfl))) (by decide) (backOf (W := 0) (rm3 l Z a0 hw [] o11 pp i2 P n pts vals h0 n0 Z0 S hp15 hn2 ep ev) hZ (hw _ (List.mem_of_getElem? (i := 22) rfl)) (hw _ (List.mem_of_getElem? (i := 2) rfl)) (by decide) (by decide)) q7a q7c (g := (mkF m 84 #[s0, s1, .val (.int i2), s3, s4, s5, .val (.int i6), s7, .val (.int (Int32.ofNat pp)), s9, s10, .val (.ref o11), s12, s13, s14] [(.int i2), (.int (Int32.ofNat pp)), (.ref o11)])) rfl (by rw [hml]; rfl) (Steps.refl _) (argsL := [(.int (Int32.ofNat pp)), (.int i2)]) (rest := []) (lenOf pd_0_1 rfl) rfl (by show 2 * 0 + _ ≤ _; exact Nat.le_of_eq rfl) (hb hby at_84) (fun _ _ => ⟨rfl, e0, (Nat.le_of_ble_eq_true rfl), (Nat.le_of_ble_eq_true rfl)⟩)
  dsimp only [Pt.U, Pt.locs, Pt.cells, Pt.slots] at X7 l7 y7 z7 st7 hQ7
  subst l7 y7 z7
  obtain ⟨rfl, N7q, Z7, S7⟩ := hQ7
  have N7 := Fr.app N0 N7q
  refine ⟨T7, _, _, X7, rfl, N7, Z7, S7, fun target kt => ?_⟩
  show Steps p.tables e below (T0.setTop (mkF m 73 #[s0, s1, .val (.int i2), s3, s4, s5, .val (.int i6), s7, .val (.int (Int32.ofNat pp)), s9, s10, .val (.ref o11), s12, s13, s14] [])) _
  refine XS.iload X0.here hx rfl (hb hby at_73) rfl ?_
  show Steps p.tables e below (T0.setTop (mkF m 75 #[s0, s1, .val (.int i2), s3, s4, s5, .val (.int i6), s7, .val (.int (Int32.ofNat pp)), s9, s10, .val (.ref o11), s12, s13, s14] [(.int i6)])) _
  refine XS.iconst X0.here hx rfl (hb hby at_75) ?_
  show Steps p.tables e below (T0.setTop (mkF m 76 #[s0, s1, .val (.int i2), s3, s4, s5, .val (.int i6), s7, .val (.int (Int32.ofNat pp)), s9, s10, .val (.ref o11), s12, s13, s14] [(.int (1 : Int32)), (.int i6)])) _
  refine XS.icmpNo X0.here hx rfl (hb hby at_76) rfl (tlt hc76).2.2.2 ?_
  show Steps p.tables e below (T0.setTop (mkF m 79 #[s0, s1, .val (.int i2), s3, s4, s5, .val (.int i6), s7, .val (.int (Int32.ofNat pp)), s9, s10, .val (.ref o11), s12, s13, s14] [])) _
  refine XS.aload X0.here hx rfl (hb hby at_79) rfl rfl ?_
  show Steps p.tables e below (T0.setTop (mkF m 81 #[s0, s1, .val (.int i2), s3, s4, s5, .val (.int i6), s7, .val (.int (Int32.ofNat pp)), s9, s10, .val (.ref o11), s12, s13, s14] [(.ref o11)])) _
  refine XS.iload X0.here hx rfl (hb hby at_81) rfl ?_
  show Steps p.tables e below (T0.setTop (mkF m 83 #[s0, s1, .val (.int i2), s3, s4, s5, .val (.int i6), s7, .val (.int (Int32.ofNat pp)), s9, s10, .val (.ref o11), s12, s13, s14] [(.int (Int32.ofNat pp)), (.ref o11)])) _
  refine XS.iloadN X0.here hx rfl (hb hby at_83) rfl ?_
  show Steps p.tables e below (T0.setTop (mkF m 84 #[s0, s1, .val (.int i2), s3, s4, s5, .val (.int i6), s7, .val (.int (Int32.ofNat pp)), s9, s10, .val (.ref o11), s12, s13, s14] [(.int i2), (.int (Int32.ofNat pp)), (.ref o11)])) _
  refine st7.trans ?_
  exact kt
set_option maxRecDepth 65536 in
set_option maxHeartbeats 40000000 in
theorem own_sk73 {p : Program} {l : Launch} {e : Env} {R : Room} {s : State} {m : MethodId} {args : Array Value} {below : List Frame} {meth : Method} {c : Code} {T0 : State} {locs : List Loc} {cells slots : Nat} {Z : State} {a0 : Array Value} {h0 : Heap} (s0 : Slot) (s1 : Slot) (s2 : Slot) (s3 : Slot) (s4 : Slot) (s5 : Slot) (i6 : Int32) (s7 : Slot) (s8 : Slot) (s9 : Slot) (s10 : Slot) (s11 : Slot) (s12 : Slot) (s13 : Slot) (s14 : Slot)
    (X0 : Stand p l e R s m args below meth c T0 locs cells slots) (hx : p.tables.exec = Jvm.exec) (hZ : Z.Warmed39 s.vm) (hw : ∀ d ∈ tables_1, d.before a0 Z = true) (hby : c.code = code) (hml : c.maxLocals = 15) (hown : s.vm.findClass "com/example/redress/redress/definition/WaitersFirstPinLaw" = some m.cls) (e0 : T0.heap = h0) (hc76 : ¬ ((1 : Int32) < i6)) :
    ∃ (T' : State), Stand p l e R s m args below meth c T' locs cells slots ∧ T'.heap = h0 ∧
      ∀ target, Steps p.tables e below (T'.setTop (mkF m 87 #[s0, s1, s2, s3, s4, s5, .val (.int i6), s7, s8, s9, s10, s11, s12, s13, s14] [])) target → Steps p.tables e below (T0.setTop (mkF m 73 #[s0, s1, s2, s3, s4, s5, .val (.int i6), s7, s8, s9, s10, s11, s12, s13, s14] [])) target := by

  refine ⟨T0, X0, e0, fun target kt => ?_⟩
  show Steps p.tables e below (T0.setTop (mkF m 73 #[s0, s1, s2, s3, s4, s5, .val (.int i6), s7, s8, s9, s10, s11, s12, s13, s14] [])) _
  refine XS.iload X0.here hx rfl (hb hby at_73) rfl ?_
  show Steps p.tables e below (T0.setTop (mkF m 75 #[s0, s1, s2, s3, s4, s5, .val (.int i6), s7, s8, s9, s10, s11, s12, s13, s14] [(.int i6)])) _
  refine XS.iconst X0.here hx rfl (hb hby at_75) ?_
  show Steps p.tables e below (T0.setTop (mkF m 76 #[s0, s1, s2, s3, s4, s5, .val (.int i6), s7, s8, s9, s10, s11, s12, s13, s14] [(.int (1 : Int32)), (.int i6)])) _
  refine XS.icmpYes X0.here hx rfl (pc0 := 76) (pc' := 87) rfl (hb hby at_76) rfl (flt hc76).2.2.2 (by decide) (by decide) ?_
  exact kt
set_option maxRecDepth 65536 in
set_option maxHeartbeats 40000000 in
theorem own_ad87 {p : Program} {l : Launch} {e : Env} {s : State} {m : MethodId} {args : Array Value} {below : List Frame} {meth : Method} {c : Code} {T0 : State} {locs : List Loc} {Z : State} {a0 : Array Value} {h0 : Heap} {n0 : Nat} (s0 : Slot) (s1 : Slot) (s2 : Slot) (i3 : Int32) (s4 : Slot) (s5 : Slot) (i6 : Int32) (s7 : Slot) (s8 : Slot) (s10 : Slot) (o11 : Addr) (s12 : Slot) (s13 : Slot) (s14 : Slot) (pp P n : Nat) (pts : Nat → Nat) (vals : Nat → Int32)
    (X0 : Stand p l e room_1 s m args below meth c T0 locs 13 189) (hx : p.tables.exec = Jvm.exec) (hZ : Z.Warmed39 s.vm) (hw : ∀ d ∈ tables_1, d.before a0 Z = true) (hby : c.code = code) (hml : c.maxLocals = 15) (hown : s.vm.findClass "com/example/redress/redress/definition/WaitersFirstPinLaw" = some m.cls) (e0 : T0.heap = h0) (N0 : Fr n0 locs) (Z0 : n0 ≤ h0.size) (E_o11 : Exa Z h0 o11 "com/example/redress/redress/definition/Waiters") (hc90 : (2 : Int32) < i6) (S : own_St Z n0 h0 o11 P n pts vals) (hp15 : pp ≤ 15) (hn2 : n ≤ 2) (ep : pts n = pp) (ev : vals n = i3) :
    ∃ (T' : State) (h' : Heap) (locs' : List Loc), Stand p l e room_1 s m args below meth c T' locs' 17 281 ∧ T'.heap = h' ∧ Fr n0 locs' ∧ n0 ≤ h'.size ∧ (∃ P', own_St Z n0 h' o11 P' (n + 1) pts vals) ∧
      ∀ target, Steps p.tables e below (T'.setTop (mkF m 101 #[s0, s1, s2, .val (.int i3), s4, s5, .val (.int i6), s7, s8, .val (.int (Int32.ofNat pp)), s10, .val (.ref o11), s12, s13, s14] [])) target → Steps p.tables e below (T0.setTop (mkF m 87 #[s0, s1, s2, .val (.int i3), s4, s5, .val (.int i6), s7, s8, .val (.int (Int32.ofNat pp)), s10, .val (.ref o11), s12, s13, s14] [])) target := by
  obtain ⟨cq7, kq7, q7a, q7b, q7c⟩ := isOf hZ e0 E_o11
  obtain ⟨_, _, ⟨T7, L7, k7, n7⟩, -, X7, ⟨Lc7, hQ7, l7, y7, z7⟩, st7⟩ := X0.virtualBack hx (y := (⟨"com/example/redress/redress/definition/Waiters", "add", "(II)V"⟩ : MethodName)) (z := (⟨"com/example/redress/redress/definition/Waiters", "add", "(II)V"⟩ : MethodName)) hown (mvT hZ (hw _ (List.mem_of_getElem? (i := 18) rfl))) (mvT hZ (hw _ (List.mem_of_getElem? (i := 19) rfl))) (notFace_of_selects (args := #[]) (mvT hZ (hw _ (List.mem_of_getElem? (i := 21) rfl)))) (mvT hZ (hw _ (List.mem_of_getElem? (i := 21) rfl))) (mvT hZ (hw _ (List.mem_of_getElem? (i := 20) rfl))) (by decide) (backOf (W := 0) (rm3 l Z a0 hw [] o11 pp i3 P n pts vals h0 n0 Z0 S hp15 hn2 ep ev) hZ (hw _ (List.mem_of_getElem? (i := 22) rfl)) (hw _ (List.mem_of_getElem? (i := 2) rfl)) (by decide) (by decide)) q7a q7c (g := (mkF m 98 #[s0, s1, s2, .val (.int i3), s4, s5, .val (.int i6), s7, s8, .val (.int (Int32.ofNat pp)), s10, .val (.ref o11), s12, s13, s14] [(.int i3), (.int (Int32.ofNat pp)), (.ref o11)])) rfl (by rw [hml]; rfl) (Steps.refl _) (argsL := [(.int (Int32.ofNat pp)), (.int i3)]) (rest := []) (lenOf pd_0_1 rfl) rfl (by show 2 * 0 + _ ≤ _; exact Nat.le_of_eq rfl) (hb hby at_98) (fun _ _ => ⟨rfl, e0, (Nat.le_of_ble_eq_true rfl), (Nat.le_of_ble_eq_true rfl)⟩)
  dsimp only [Pt.U, Pt.locs, Pt.cells, Pt.slots] at X7 l7 y7 z7 st7 hQ7
  subst l7 y7 z7
  obtain ⟨rfl, N7q, Z7, S7⟩ := hQ7
  have N7 := Fr.app N0 N7q
  refine ⟨T7, _, _, X7, rfl, N7, Z7, S7, fun target kt => ?_⟩
  show Steps p.tables e below (T0.setTop (mkF m 87 #[s0, s1, s2, .val (.int i3), s4, s5, .val (.int i6), s7, s8, .val (.int (Int32.ofNat pp)), s10, .val (.ref o11), s12, s13, s14] [])) _
  refine XS.iload X0.here hx rfl (hb hby at_87) rfl ?_
  show Steps p.tables e below (T0.setTop (mkF m 89 #[s0, s1, s2, .val (.int i3), s4, s5, .val (.int i6), s7, s8, .val (.int (Int32.ofNat pp)), s10, .val (.ref o11), s12, s13, s14] [(.int i6)])) _
  refine XS.iconst X0.here hx rfl (hb hby at_89) ?_
  show Steps p.tables e below (T0.setTop (mkF m 90 #[s0, s1, s2, .val (.int i3), s4, s5, .val (.int i6), s7, s8, .val (.int (Int32.ofNat pp)), s10, .val (.ref o11), s12, s13, s14] [(.int (2 : Int32)), (.int i6)])) _
  refine XS.icmpNo X0.here hx rfl (hb hby at_90) rfl (tlt hc90).2.2.2 ?_
  show Steps p.tables e below (T0.setTop (mkF m 93 #[s0, s1, s2, .val (.int i3), s4, s5, .val (.int i6), s7, s8, .val (.int (Int32.ofNat pp)), s10, .val (.ref o11), s12, s13, s14] [])) _
  refine XS.aload X0.here hx rfl (hb hby at_93) rfl rfl ?_
  show Steps p.tables e below (T0.setTop (mkF m 95 #[s0, s1, s2, .val (.int i3), s4, s5, .val (.int i6), s7, s8, .val (.int (Int32.ofNat pp)), s10, .val (.ref o11), s12, s13, s14] [(.ref o11)])) _
  refine XS.iload X0.here hx rfl (hb hby at_95) rfl ?_
  show Steps p.tables e below (T0.setTop (mkF m 97 #[s0, s1, s2, .val (.int i3), s4, s5, .val (.int i6), s7, s8, .val (.int (Int32.ofNat pp)), s10, .val (.ref o11), s12, s13, s14] [(.int (Int32.ofNat pp)), (.ref o11)])) _
  refine XS.iloadN X0.here hx rfl (hb hby at_97) rfl ?_
  show Steps p.tables e below (T0.setTop (mkF m 98 #[s0, s1, s2, .val (.int i3), s4, s5, .val (.int i6), s7, s8, .val (.int (Int32.ofNat pp)), s10, .val (.ref o11), s12, s13, s14] [(.int i3), (.int (Int32.ofNat pp)), (.ref o11)])) _
  refine st7.trans ?_
  exact kt
set_option maxRecDepth 65536 in
set_option maxHeartbeats 40000000 in
theorem own_sk87 {p : Program} {l : Launch} {e : Env} {R : Room} {s : State} {m : MethodId} {args : Array Value} {below : List Frame} {meth : Method} {c : Code} {T0 : State} {locs : List Loc} {cells slots : Nat} {Z : State} {a0 : Array Value} {h0 : Heap} (s0 : Slot) (s1 : Slot) (s2 : Slot) (s3 : Slot) (s4 : Slot) (s5 : Slot) (i6 : Int32) (s7 : Slot) (s8 : Slot) (s9 : Slot) (s10 : Slot) (s11 : Slot) (s12 : Slot) (s13 : Slot) (s14 : Slot)
    (X0 : Stand p l e R s m args below meth c T0 locs cells slots) (hx : p.tables.exec = Jvm.exec) (hZ : Z.Warmed39 s.vm) (hw : ∀ d ∈ tables_1, d.before a0 Z = true) (hby : c.code = code) (hml : c.maxLocals = 15) (hown : s.vm.findClass "com/example/redress/redress/definition/WaitersFirstPinLaw" = some m.cls) (e0 : T0.heap = h0) (hc90 : ¬ ((2 : Int32) < i6)) :
    ∃ (T' : State), Stand p l e R s m args below meth c T' locs cells slots ∧ T'.heap = h0 ∧
      ∀ target, Steps p.tables e below (T'.setTop (mkF m 101 #[s0, s1, s2, s3, s4, s5, .val (.int i6), s7, s8, s9, s10, s11, s12, s13, s14] [])) target → Steps p.tables e below (T0.setTop (mkF m 87 #[s0, s1, s2, s3, s4, s5, .val (.int i6), s7, s8, s9, s10, s11, s12, s13, s14] [])) target := by

  refine ⟨T0, X0, e0, fun target kt => ?_⟩
  show Steps p.tables e below (T0.setTop (mkF m 87 #[s0, s1, s2, s3, s4, s5, .val (.int i6), s7, s8, s9, s10, s11, s12, s13, s14] [])) _
  refine XS.iload X0.here hx rfl (hb hby at_87) rfl ?_
  show Steps p.tables e below (T0.setTop (mkF m 89 #[s0, s1, s2, s3, s4, s5, .val (.int i6), s7, s8, s9, s10, s11, s12, s13, s14] [(.int i6)])) _
  refine XS.iconst X0.here hx rfl (hb hby at_89) ?_
  show Steps p.tables e below (T0.setTop (mkF m 90 #[s0, s1, s2, s3, s4, s5, .val (.int i6), s7, s8, s9, s10, s11, s12, s13, s14] [(.int (2 : Int32)), (.int i6)])) _
  refine XS.icmpYes X0.here hx rfl (pc0 := 90) (pc' := 101) rfl (hb hby at_90) rfl (flt hc90).2.2.2 (by decide) (by decide) ?_
  exact kt
theorem os0_102 {s0 : Slot} {s1 : Slot} {s2 : Slot} {s3 : Slot} {s4 : Slot} {s5 : Slot} {z6 : Value} {s7 : Slot} {s8 : Slot} {s9 : Slot} {s10 : Slot} {s11 : Slot} {s12 : Slot} {s13 : Slot} {s14 : Slot} {v : Int32} (h : One s13) : storeLocals #[s0, s1, s2, s3, s4, s5, .val z6, s7, s8, s9, s10, s11, s12, s13, s14] 13 (.int v) = some #[s0, s1, s2, s3, s4, s5, .val z6, s7, s8, s9, s10, s11, s12, .val (.int v), s14] := by
  rcases h with rfl | ⟨w, rfl, hw⟩
  · rfl
  · cases w <;> first | rfl | (simp [Value.category] at hw)
set_option maxRecDepth 65536 in
set_option maxHeartbeats 40000000 in
theorem own_n0a {p : Program} {l : Launch} {e : Env} {R : Room} {s : State} {m : MethodId} {args : Array Value} {below : List Frame} {meth : Method} {c : Code} {T0 : State} {locs : List Loc} {cells slots : Nat} {Z : State} {a0 : Array Value} {h0 : Heap} (s0 : Slot) (s1 : Slot) (s2 : Slot) (s3 : Slot) (s4 : Slot) (s5 : Slot) (i6 : Int32) (s7 : Slot) (s8 : Slot) (s9 : Slot) (s10 : Slot) (s11 : Slot) (s12 : Slot) (s13 : Slot) (s14 : Slot)
    (X0 : Stand p l e R s m args below meth c T0 locs cells slots) (hx : p.tables.exec = Jvm.exec) (hZ : Z.Warmed39 s.vm) (hw : ∀ d ∈ tables_1, d.before a0 Z = true) (hby : c.code = code) (hml : c.maxLocals = 15) (hown : s.vm.findClass "com/example/redress/redress/definition/WaitersFirstPinLaw" = some m.cls) (e0 : T0.heap = h0) (hs13 : One s13) (hc106 : ¬ ((0 : Int32) < i6)) :
    ∃ (T' : State), Stand p l e R s m args below meth c T' locs cells slots ∧ T'.heap = h0 ∧
      ∀ target, Steps p.tables e below (T'.setTop (mkF m 125 #[s0, s1, s2, s3, s4, s5, .val (.int i6), s7, s8, s9, s10, s11, s12, .val (.int (0 : Int32)), s14] [])) target → Steps p.tables e below (T0.setTop (mkF m 101 #[s0, s1, s2, s3, s4, s5, .val (.int i6), s7, s8, s9, s10, s11, s12, s13, s14] [])) target := by

  refine ⟨T0, X0, e0, fun target kt => ?_⟩
  show Steps p.tables e below (T0.setTop (mkF m 101 #[s0, s1, s2, s3, s4, s5, .val (.int i6), s7, s8, s9, s10, s11, s12, s13, s14] [])) _
  refine XS.iconst X0.here hx rfl (hb hby at_101) ?_
  show Steps p.tables e below (T0.setTop (mkF m 102 #[s0, s1, s2, s3, s4, s5, .val (.int i6), s7, s8, s9, s10, s11, s12, s13, s14] [(.int (0 : Int32))])) _
  refine XS.istore X0.here hx rfl (hb hby at_102) rfl (l' := #[s0, s1, s2, s3, s4, s5, .val (.int i6), s7, s8, s9, s10, s11, s12, .val (.int (0 : Int32)), s14]) (os0_102 hs13) ?_
  show Steps p.tables e below (T0.setTop (mkF m 104 #[s0, s1, s2, s3, s4, s5, .val (.int i6), s7, s8, s9, s10, s11, s12, .val (.int (0 : Int32)), s14] [])) _
  refine XS.iload X0.here hx rfl (hb hby at_104) rfl ?_
  show Steps p.tables e below (T0.setTop (mkF m 106 #[s0, s1, s2, s3, s4, s5, .val (.int i6), s7, s8, s9, s10, s11, s12, .val (.int (0 : Int32)), s14] [(.int i6)])) _
  refine XS.ifYes X0.here hx rfl (pc0 := 106) (pc' := 125) rfl (hb hby at_106) rfl ((if0 _ _).trans (flt hc106).2.2.2) (by decide) (by decide) ?_
  exact kt
set_option maxRecDepth 65536 in
set_option maxHeartbeats 40000000 in
theorem own_n0b {p : Program} {l : Launch} {e : Env} {R : Room} {s : State} {m : MethodId} {args : Array Value} {below : List Frame} {meth : Method} {c : Code} {T0 : State} {locs : List Loc} {cells slots : Nat} {Z : State} {a0 : Array Value} {h0 : Heap} (s0 : Slot) (s1 : Slot) (s2 : Slot) (s3 : Slot) (s4 : Slot) (s5 : Slot) (i6 : Int32) (i7 : Int32) (s8 : Slot) (s9 : Slot) (i10 : Int32) (s11 : Slot) (s12 : Slot) (s13 : Slot) (s14 : Slot)
    (X0 : Stand p l e R s m args below meth c T0 locs cells slots) (hx : p.tables.exec = Jvm.exec) (hZ : Z.Warmed39 s.vm) (hw : ∀ d ∈ tables_1, d.before a0 Z = true) (hby : c.code = code) (hml : c.maxLocals = 15) (hown : s.vm.findClass "com/example/redress/redress/definition/WaitersFirstPinLaw" = some m.cls) (e0 : T0.heap = h0) (hs13 : One s13) (hc106 : (0 : Int32) < i6) (hc113 : ¬ (i7 = i10)) :
    ∃ (T' : State), Stand p l e R s m args below meth c T' locs cells slots ∧ T'.heap = h0 ∧
      ∀ target, Steps p.tables e below (T'.setTop (mkF m 125 #[s0, s1, s2, s3, s4, s5, .val (.int i6), .val (.int i7), s8, s9, .val (.int i10), s11, s12, .val (.int (0 : Int32)), s14] [])) target → Steps p.tables e below (T0.setTop (mkF m 101 #[s0, s1, s2, s3, s4, s5, .val (.int i6), .val (.int i7), s8, s9, .val (.int i10), s11, s12, s13, s14] [])) target := by

  refine ⟨T0, X0, e0, fun target kt => ?_⟩
  show Steps p.tables e below (T0.setTop (mkF m 101 #[s0, s1, s2, s3, s4, s5, .val (.int i6), .val (.int i7), s8, s9, .val (.int i10), s11, s12, s13, s14] [])) _
  refine XS.iconst X0.here hx rfl (hb hby at_101) ?_
  show Steps p.tables e below (T0.setTop (mkF m 102 #[s0, s1, s2, s3, s4, s5, .val (.int i6), .val (.int i7), s8, s9, .val (.int i10), s11, s12, s13, s14] [(.int (0 : Int32))])) _
  refine XS.istore X0.here hx rfl (hb hby at_102) rfl (l' := #[s0, s1, s2, s3, s4, s5, .val (.int i6), .val (.int i7), s8, s9, .val (.int i10), s11, s12, .val (.int (0 : Int32)), s14]) (os0_102 hs13) ?_
  show Steps p.tables e below (T0.setTop (mkF m 104 #[s0, s1, s2, s3, s4, s5, .val (.int i6), .val (.int i7), s8, s9, .val (.int i10), s11, s12, .val (.int (0 : Int32)), s14] [])) _
  refine XS.iload X0.here hx rfl (hb hby at_104) rfl ?_
  show Steps p.tables e below (T0.setTop (mkF m 106 #[s0, s1, s2, s3, s4, s5, .val (.int i6), .val (.int i7), s8, s9, .val (.int i10), s11, s12, .val (.int (0 : Int32)), s14] [(.int i6)])) _
  refine XS.ifNo X0.here hx rfl (hb hby at_106) rfl ((if0 _ _).trans (tlt hc106).2.2.2) ?_
  show Steps p.tables e below (T0.setTop (mkF m 109 #[s0, s1, s2, s3, s4, s5, .val (.int i6), .val (.int i7), s8, s9, .val (.int i10), s11, s12, .val (.int (0 : Int32)), s14] [])) _
  refine XS.iload X0.here hx rfl (hb hby at_109) rfl ?_
  show Steps p.tables e below (T0.setTop (mkF m 111 #[s0, s1, s2, s3, s4, s5, .val (.int i6), .val (.int i7), s8, s9, .val (.int i10), s11, s12, .val (.int (0 : Int32)), s14] [(.int i7)])) _
  refine XS.iload X0.here hx rfl (hb hby at_111) rfl ?_
  show Steps p.tables e below (T0.setTop (mkF m 113 #[s0, s1, s2, s3, s4, s5, .val (.int i6), .val (.int i7), s8, s9, .val (.int i10), s11, s12, .val (.int (0 : Int32)), s14] [(.int i10), (.int i7)])) _
  refine XS.icmpYes X0.here hx rfl (pc0 := 113) (pc' := 125) rfl (hb hby at_113) rfl (feq hc113).2 (by decide) (by decide) ?_
  exact kt
theorem os0_117 {s0 : Slot} {z1 : Value} {s2 : Slot} {s3 : Slot} {s4 : Slot} {s5 : Slot} {z6 : Value} {z7 : Value} {s8 : Slot} {s9 : Slot} {z10 : Value} {s11 : Slot} {s12 : Slot} {z13 : Value} {s14 : Slot} {v : Int32} (h : One s12) : storeLocals #[s0, .val z1, s2, s3, s4, s5, .val z6, .val z7, s8, s9, .val z10, s11, s12, .val z13, s14] 12 (.int v) = some #[s0, .val z1, s2, s3, s4, s5, .val z6, .val z7, s8, s9, .val z10, s11, .val (.int v), .val z13, s14] := by
  rcases h with rfl | ⟨w, rfl, hw⟩
  · rfl
  · cases w <;> first | rfl | (simp [Value.category] at hw)
set_option maxRecDepth 65536 in
set_option maxHeartbeats 40000000 in
theorem own_y0 {p : Program} {l : Launch} {e : Env} {R : Room} {s : State} {m : MethodId} {args : Array Value} {below : List Frame} {meth : Method} {c : Code} {T0 : State} {locs : List Loc} {cells slots : Nat} {Z : State} {a0 : Array Value} {h0 : Heap} (s0 : Slot) (i1 : Int32) (s2 : Slot) (s3 : Slot) (s4 : Slot) (s5 : Slot) (i6 : Int32) (i7 : Int32) (s8 : Slot) (s9 : Slot) (i10 : Int32) (s11 : Slot) (s12 : Slot) (s13 : Slot) (s14 : Slot)
    (X0 : Stand p l e R s m args below meth c T0 locs cells slots) (hx : p.tables.exec = Jvm.exec) (hZ : Z.Warmed39 s.vm) (hw : ∀ d ∈ tables_1, d.before a0 Z = true) (hby : c.code = code) (hml : c.maxLocals = 15) (hown : s.vm.findClass "com/example/redress/redress/definition/WaitersFirstPinLaw" = some m.cls) (e0 : T0.heap = h0) (hs13 : One s13) (hs12 : One s12) (hc106 : (0 : Int32) < i6) (hc113 : i7 = i10) :
    ∃ (T' : State), Stand p l e R s m args below meth c T' locs cells slots ∧ T'.heap = h0 ∧
      ∀ target, Steps p.tables e below (T'.setTop (mkF m 172 #[s0, .val (.int i1), s2, s3, s4, s5, .val (.int i6), .val (.int i7), s8, s9, .val (.int i10), s11, .val (.int (1 : Int32)), .val (.int i1), s14] [])) target → Steps p.tables e below (T0.setTop (mkF m 101 #[s0, .val (.int i1), s2, s3, s4, s5, .val (.int i6), .val (.int i7), s8, s9, .val (.int i10), s11, s12, s13, s14] [])) target := by

  refine ⟨T0, X0, e0, fun target kt => ?_⟩
  show Steps p.tables e below (T0.setTop (mkF m 101 #[s0, .val (.int i1), s2, s3, s4, s5, .val (.int i6), .val (.int i7), s8, s9, .val (.int i10), s11, s12, s13, s14] [])) _
  refine XS.iconst X0.here hx rfl (hb hby at_101) ?_
  show Steps p.tables e below (T0.setTop (mkF m 102 #[s0, .val (.int i1), s2, s3, s4, s5, .val (.int i6), .val (.int i7), s8, s9, .val (.int i10), s11, s12, s13, s14] [(.int (0 : Int32))])) _
  refine XS.istore X0.here hx rfl (hb hby at_102) rfl (l' := #[s0, .val (.int i1), s2, s3, s4, s5, .val (.int i6), .val (.int i7), s8, s9, .val (.int i10), s11, s12, .val (.int (0 : Int32)), s14]) (os0_102 hs13) ?_
  show Steps p.tables e below (T0.setTop (mkF m 104 #[s0, .val (.int i1), s2, s3, s4, s5, .val (.int i6), .val (.int i7), s8, s9, .val (.int i10), s11, s12, .val (.int (0 : Int32)), s14] [])) _
  refine XS.iload X0.here hx rfl (hb hby at_104) rfl ?_
  show Steps p.tables e below (T0.setTop (mkF m 106 #[s0, .val (.int i1), s2, s3, s4, s5, .val (.int i6), .val (.int i7), s8, s9, .val (.int i10), s11, s12, .val (.int (0 : Int32)), s14] [(.int i6)])) _
  refine XS.ifNo X0.here hx rfl (hb hby at_106) rfl ((if0 _ _).trans (tlt hc106).2.2.2) ?_
  show Steps p.tables e below (T0.setTop (mkF m 109 #[s0, .val (.int i1), s2, s3, s4, s5, .val (.int i6), .val (.int i7), s8, s9, .val (.int i10), s11, s12, .val (.int (0 : Int32)), s14] [])) _
  refine XS.iload X0.here hx rfl (hb hby at_109) rfl ?_
  show Steps p.tables e below (T0.setTop (mkF m 111 #[s0, .val (.int i1), s2, s3, s4, s5, .val (.int i6), .val (.int i7), s8, s9, .val (.int i10), s11, s12, .val (.int (0 : Int32)), s14] [(.int i7)])) _
  refine XS.iload X0.here hx rfl (hb hby at_111) rfl ?_
  show Steps p.tables e below (T0.setTop (mkF m 113 #[s0, .val (.int i1), s2, s3, s4, s5, .val (.int i6), .val (.int i7), s8, s9, .val (.int i10), s11, s12, .val (.int (0 : Int32)), s14] [(.int i10), (.int i7)])) _
  refine XS.icmpNo X0.here hx rfl (hb hby at_113) rfl (teq hc113).2 ?_
  show Steps p.tables e below (T0.setTop (mkF m 116 #[s0, .val (.int i1), s2, s3, s4, s5, .val (.int i6), .val (.int i7), s8, s9, .val (.int i10), s11, s12, .val (.int (0 : Int32)), s14] [])) _
  refine XS.iconst X0.here hx rfl (hb hby at_116) ?_
  show Steps p.tables e below (T0.setTop (mkF m 117 #[s0, .val (.int i1), s2, s3, s4, s5, .val (.int i6), .val (.int i7), s8, s9, .val (.int i10), s11, s12, .val (.int (0 : Int32)), s14] [(.int (1 : Int32))])) _
  refine XS.istore X0.here hx rfl (hb hby at_117) rfl (l' := #[s0, .val (.int i1), s2, s3, s4, s5, .val (.int i6), .val (.int i7), s8, s9, .val (.int i10), s11, .val (.int (1 : Int32)), .val (.int (0 : Int32)), s14]) (os0_117 hs12) ?_
  show Steps p.tables e below (T0.setTop (mkF m 119 #[s0, .val (.int i1), s2, s3, s4, s5, .val (.int i6), .val (.int i7), s8, s9, .val (.int i10), s11, .val (.int (1 : Int32)), .val (.int (0 : Int32)), s14] [])) _
  refine XS.iloadN X0.here hx rfl (hb hby at_119) rfl ?_
  show Steps p.tables e below (T0.setTop (mkF m 120 #[s0, .val (.int i1), s2, s3, s4, s5, .val (.int i6), .val (.int i7), s8, s9, .val (.int i10), s11, .val (.int (1 : Int32)), .val (.int (0 : Int32)), s14] [(.int i1)])) _
  refine XS.istore X0.here hx rfl (hb hby at_120) rfl (l' := #[s0, .val (.int i1), s2, s3, s4, s5, .val (.int i6), .val (.int i7), s8, s9, .val (.int i10), s11, .val (.int (1 : Int32)), .val (.int i1), s14]) rfl ?_
  show Steps p.tables e below (T0.setTop (mkF m 122 #[s0, .val (.int i1), s2, s3, s4, s5, .val (.int i6), .val (.int i7), s8, s9, .val (.int i10), s11, .val (.int (1 : Int32)), .val (.int i1), s14] [])) _
  refine XS.goto X0.here hx rfl (pc0 := 122) (pc' := 172) rfl (hb hby at_122) (by decide) (by decide) ?_
  exact kt
set_option maxRecDepth 65536 in
set_option maxHeartbeats 40000000 in
theorem own_n1a {p : Program} {l : Launch} {e : Env} {R : Room} {s : State} {m : MethodId} {args : Array Value} {below : List Frame} {meth : Method} {c : Code} {T0 : State} {locs : List Loc} {cells slots : Nat} {Z : State} {a0 : Array Value} {h0 : Heap} (s0 : Slot) (s1 : Slot) (s2 : Slot) (s3 : Slot) (s4 : Slot) (s5 : Slot) (i6 : Int32) (s7 : Slot) (s8 : Slot) (s9 : Slot) (s10 : Slot) (s11 : Slot) (s12 : Slot) (s13 : Slot) (s14 : Slot)
    (X0 : Stand p l e R s m args below meth c T0 locs cells slots) (hx : p.tables.exec = Jvm.exec) (hZ : Z.Warmed39 s.vm) (hw : ∀ d ∈ tables_1, d.before a0 Z = true) (hby : c.code = code) (hml : c.maxLocals = 15) (hown : s.vm.findClass "com/example/redress/redress/definition/WaitersFirstPinLaw" = some m.cls) (e0 : T0.heap = h0) (hc128 : ¬ ((1 : Int32) < i6)) :
    ∃ (T' : State), Stand p l e R s m args below meth c T' locs cells slots ∧ T'.heap = h0 ∧
      ∀ target, Steps p.tables e below (T'.setTop (mkF m 147 #[s0, s1, s2, s3, s4, s5, .val (.int i6), s7, s8, s9, s10, s11, s12, s13, s14] [])) target → Steps p.tables e below (T0.setTop (mkF m 125 #[s0, s1, s2, s3, s4, s5, .val (.int i6), s7, s8, s9, s10, s11, s12, s13, s14] [])) target := by

  refine ⟨T0, X0, e0, fun target kt => ?_⟩
  show Steps p.tables e below (T0.setTop (mkF m 125 #[s0, s1, s2, s3, s4, s5, .val (.int i6), s7, s8, s9, s10, s11, s12, s13, s14] [])) _
  refine XS.iload X0.here hx rfl (hb hby at_125) rfl ?_
  show Steps p.tables e below (T0.setTop (mkF m 127 #[s0, s1, s2, s3, s4, s5, .val (.int i6), s7, s8, s9, s10, s11, s12, s13, s14] [(.int i6)])) _
  refine XS.iconst X0.here hx rfl (hb hby at_127) ?_
  show Steps p.tables e below (T0.setTop (mkF m 128 #[s0, s1, s2, s3, s4, s5, .val (.int i6), s7, s8, s9, s10, s11, s12, s13, s14] [(.int (1 : Int32)), (.int i6)])) _
  refine XS.icmpYes X0.here hx rfl (pc0 := 128) (pc' := 147) rfl (hb hby at_128) rfl (flt hc128).2.2.2 (by decide) (by decide) ?_
  exact kt
set_option maxRecDepth 65536 in
set_option maxHeartbeats 40000000 in
theorem own_n1b {p : Program} {l : Launch} {e : Env} {R : Room} {s : State} {m : MethodId} {args : Array Value} {below : List Frame} {meth : Method} {c : Code} {T0 : State} {locs : List Loc} {cells slots : Nat} {Z : State} {a0 : Array Value} {h0 : Heap} (s0 : Slot) (s1 : Slot) (s2 : Slot) (s3 : Slot) (s4 : Slot) (s5 : Slot) (i6 : Int32) (s7 : Slot) (i8 : Int32) (s9 : Slot) (i10 : Int32) (s11 : Slot) (s12 : Slot) (s13 : Slot) (s14 : Slot)
    (X0 : Stand p l e R s m args below meth c T0 locs cells slots) (hx : p.tables.exec = Jvm.exec) (hZ : Z.Warmed39 s.vm) (hw : ∀ d ∈ tables_1, d.before a0 Z = true) (hby : c.code = code) (hml : c.maxLocals = 15) (hown : s.vm.findClass "com/example/redress/redress/definition/WaitersFirstPinLaw" = some m.cls) (e0 : T0.heap = h0) (hc128 : (1 : Int32) < i6) (hc135 : ¬ (i8 = i10)) :
    ∃ (T' : State), Stand p l e R s m args below meth c T' locs cells slots ∧ T'.heap = h0 ∧
      ∀ target, Steps p.tables e below (T'.setTop (mkF m 147 #[s0, s1, s2, s3, s4, s5, .val (.int i6), s7, .val (.int i8), s9, .val (.int i10), s11, s12, s13, s14] [])) target → Steps p.tables e below (T0.setTop (mkF m 125 #[s0, s1, s2, s3, s4, s5, .val (.int i6), s7, .val (.int i8), s9, .val (.int i10), s11, s12, s13, s14] [])) target := by

  refine ⟨T0, X0, e0, fun target kt => ?_⟩
  show Steps p.tables e below (T0.setTop (mkF m 125 #[s0, s1, s2, s3, s4, s5, .val (.int i6), s7, .val (.int i8), s9, .val (.int i10), s11, s12, s13, s14] [])) _
  refine XS.iload X0.here hx rfl (hb hby at_125) rfl ?_
  show Steps p.tables e below (T0.setTop (mkF m 127 #[s0, s1, s2, s3, s4, s5, .val (.int i6), s7, .val (.int i8), s9, .val (.int i10), s11, s12, s13, s14] [(.int i6)])) _
  refine XS.iconst X0.here hx rfl (hb hby at_127) ?_
  show Steps p.tables e below (T0.setTop (mkF m 128 #[s0, s1, s2, s3, s4, s5, .val (.int i6), s7, .val (.int i8), s9, .val (.int i10), s11, s12, s13, s14] [(.int (1 : Int32)), (.int i6)])) _
  refine XS.icmpNo X0.here hx rfl (hb hby at_128) rfl (tlt hc128).2.2.2 ?_
  show Steps p.tables e below (T0.setTop (mkF m 131 #[s0, s1, s2, s3, s4, s5, .val (.int i6), s7, .val (.int i8), s9, .val (.int i10), s11, s12, s13, s14] [])) _
  refine XS.iload X0.here hx rfl (hb hby at_131) rfl ?_
  show Steps p.tables e below (T0.setTop (mkF m 133 #[s0, s1, s2, s3, s4, s5, .val (.int i6), s7, .val (.int i8), s9, .val (.int i10), s11, s12, s13, s14] [(.int i8)])) _
  refine XS.iload X0.here hx rfl (hb hby at_133) rfl ?_
  show Steps p.tables e below (T0.setTop (mkF m 135 #[s0, s1, s2, s3, s4, s5, .val (.int i6), s7, .val (.int i8), s9, .val (.int i10), s11, s12, s13, s14] [(.int i10), (.int i8)])) _
  refine XS.icmpYes X0.here hx rfl (pc0 := 135) (pc' := 147) rfl (hb hby at_135) rfl (feq hc135).2 (by decide) (by decide) ?_
  exact kt
theorem os0_139 {s0 : Slot} {s1 : Slot} {z2 : Value} {s3 : Slot} {s4 : Slot} {s5 : Slot} {z6 : Value} {s7 : Slot} {z8 : Value} {s9 : Slot} {z10 : Value} {s11 : Slot} {s12 : Slot} {s13 : Slot} {s14 : Slot} {v : Int32} (h : One s12) : storeLocals #[s0, s1, .val z2, s3, s4, s5, .val z6, s7, .val z8, s9, .val z10, s11, s12, s13, s14] 12 (.int v) = some #[s0, s1, .val z2, s3, s4, s5, .val z6, s7, .val z8, s9, .val z10, s11, .val (.int v), s13, s14] := by
  rcases h with rfl | ⟨w, rfl, hw⟩
  · rfl
  · cases w <;> first | rfl | (simp [Value.category] at hw)
theorem os0_142 {s0 : Slot} {s1 : Slot} {z2 : Value} {s3 : Slot} {s4 : Slot} {s5 : Slot} {z6 : Value} {s7 : Slot} {z8 : Value} {s9 : Slot} {z10 : Value} {s11 : Slot} {z12 : Value} {s13 : Slot} {s14 : Slot} {v : Int32} (h : One s13) : storeLocals #[s0, s1, .val z2, s3, s4, s5, .val z6, s7, .val z8, s9, .val z10, s11, .val z12, s13, s14] 13 (.int v) = some #[s0, s1, .val z2, s3, s4, s5, .val z6, s7, .val z8, s9, .val z10, s11, .val z12, .val (.int v), s14] := by
  rcases h with rfl | ⟨w, rfl, hw⟩
  · rfl
  · cases w <;> first | rfl | (simp [Value.category] at hw)
set_option maxRecDepth 65536 in
set_option maxHeartbeats 40000000 in
theorem own_y1 {p : Program} {l : Launch} {e : Env} {R : Room} {s : State} {m : MethodId} {args : Array Value} {below : List Frame} {meth : Method} {c : Code} {T0 : State} {locs : List Loc} {cells slots : Nat} {Z : State} {a0 : Array Value} {h0 : Heap} (s0 : Slot) (s1 : Slot) (i2 : Int32) (s3 : Slot) (s4 : Slot) (s5 : Slot) (i6 : Int32) (s7 : Slot) (i8 : Int32) (s9 : Slot) (i10 : Int32) (s11 : Slot) (s12 : Slot) (s13 : Slot) (s14 : Slot)
    (X0 : Stand p l e R s m args below meth c T0 locs cells slots) (hx : p.tables.exec = Jvm.exec) (hZ : Z.Warmed39 s.vm) (hw : ∀ d ∈ tables_1, d.before a0 Z = true) (hby : c.code = code) (hml : c.maxLocals = 15) (hown : s.vm.findClass "com/example/redress/redress/definition/WaitersFirstPinLaw" = some m.cls) (e0 : T0.heap = h0) (hs12 : One s12) (hs13 : One s13) (hc128 : (1 : Int32) < i6) (hc135 : i8 = i10) :
    ∃ (T' : State), Stand p l e R s m args below meth c T' locs cells slots ∧ T'.heap = h0 ∧
      ∀ target, Steps p.tables e below (T'.setTop (mkF m 172 #[s0, s1, .val (.int i2), s3, s4, s5, .val (.int i6), s7, .val (.int i8), s9, .val (.int i10), s11, .val (.int (1 : Int32)), .val (.int i2), s14] [])) target → Steps p.tables e below (T0.setTop (mkF m 125 #[s0, s1, .val (.int i2), s3, s4, s5, .val (.int i6), s7, .val (.int i8), s9, .val (.int i10), s11, s12, s13, s14] [])) target := by

  refine ⟨T0, X0, e0, fun target kt => ?_⟩
  show Steps p.tables e below (T0.setTop (mkF m 125 #[s0, s1, .val (.int i2), s3, s4, s5, .val (.int i6), s7, .val (.int i8), s9, .val (.int i10), s11, s12, s13, s14] [])) _
  refine XS.iload X0.here hx rfl (hb hby at_125) rfl ?_
  show Steps p.tables e below (T0.setTop (mkF m 127 #[s0, s1, .val (.int i2), s3, s4, s5, .val (.int i6), s7, .val (.int i8), s9, .val (.int i10), s11, s12, s13, s14] [(.int i6)])) _
  refine XS.iconst X0.here hx rfl (hb hby at_127) ?_
  show Steps p.tables e below (T0.setTop (mkF m 128 #[s0, s1, .val (.int i2), s3, s4, s5, .val (.int i6), s7, .val (.int i8), s9, .val (.int i10), s11, s12, s13, s14] [(.int (1 : Int32)), (.int i6)])) _
  refine XS.icmpNo X0.here hx rfl (hb hby at_128) rfl (tlt hc128).2.2.2 ?_
  show Steps p.tables e below (T0.setTop (mkF m 131 #[s0, s1, .val (.int i2), s3, s4, s5, .val (.int i6), s7, .val (.int i8), s9, .val (.int i10), s11, s12, s13, s14] [])) _
  refine XS.iload X0.here hx rfl (hb hby at_131) rfl ?_
  show Steps p.tables e below (T0.setTop (mkF m 133 #[s0, s1, .val (.int i2), s3, s4, s5, .val (.int i6), s7, .val (.int i8), s9, .val (.int i10), s11, s12, s13, s14] [(.int i8)])) _
  refine XS.iload X0.here hx rfl (hb hby at_133) rfl ?_
  show Steps p.tables e below (T0.setTop (mkF m 135 #[s0, s1, .val (.int i2), s3, s4, s5, .val (.int i6), s7, .val (.int i8), s9, .val (.int i10), s11, s12, s13, s14] [(.int i10), (.int i8)])) _
  refine XS.icmpNo X0.here hx rfl (hb hby at_135) rfl (teq hc135).2 ?_
  show Steps p.tables e below (T0.setTop (mkF m 138 #[s0, s1, .val (.int i2), s3, s4, s5, .val (.int i6), s7, .val (.int i8), s9, .val (.int i10), s11, s12, s13, s14] [])) _
  refine XS.iconst X0.here hx rfl (hb hby at_138) ?_
  show Steps p.tables e below (T0.setTop (mkF m 139 #[s0, s1, .val (.int i2), s3, s4, s5, .val (.int i6), s7, .val (.int i8), s9, .val (.int i10), s11, s12, s13, s14] [(.int (1 : Int32))])) _
  refine XS.istore X0.here hx rfl (hb hby at_139) rfl (l' := #[s0, s1, .val (.int i2), s3, s4, s5, .val (.int i6), s7, .val (.int i8), s9, .val (.int i10), s11, .val (.int (1 : Int32)), s13, s14]) (os0_139 hs12) ?_
  show Steps p.tables e below (T0.setTop (mkF m 141 #[s0, s1, .val (.int i2), s3, s4, s5, .val (.int i6), s7, .val (.int i8), s9, .val (.int i10), s11, .val (.int (1 : Int32)), s13, s14] [])) _
  refine XS.iloadN X0.here hx rfl (hb hby at_141) rfl ?_
  show Steps p.tables e below (T0.setTop (mkF m 142 #[s0, s1, .val (.int i2), s3, s4, s5, .val (.int i6), s7, .val (.int i8), s9, .val (.int i10), s11, .val (.int (1 : Int32)), s13, s14] [(.int i2)])) _
  refine XS.istore X0.here hx rfl (hb hby at_142) rfl (l' := #[s0, s1, .val (.int i2), s3, s4, s5, .val (.int i6), s7, .val (.int i8), s9, .val (.int i10), s11, .val (.int (1 : Int32)), .val (.int i2), s14]) (os0_142 hs13) ?_
  show Steps p.tables e below (T0.setTop (mkF m 144 #[s0, s1, .val (.int i2), s3, s4, s5, .val (.int i6), s7, .val (.int i8), s9, .val (.int i10), s11, .val (.int (1 : Int32)), .val (.int i2), s14] [])) _
  refine XS.goto X0.here hx rfl (pc0 := 144) (pc' := 172) rfl (hb hby at_144) (by decide) (by decide) ?_
  exact kt
theorem os0_170 {s0 : Slot} {s1 : Slot} {s2 : Slot} {s3 : Slot} {s4 : Slot} {s5 : Slot} {z6 : Value} {s7 : Slot} {s8 : Slot} {s9 : Slot} {s10 : Slot} {s11 : Slot} {s12 : Slot} {s13 : Slot} {s14 : Slot} {v : Int32} (h : One s12) : storeLocals #[s0, s1, s2, s3, s4, s5, .val z6, s7, s8, s9, s10, s11, s12, s13, s14] 12 (.int v) = some #[s0, s1, s2, s3, s4, s5, .val z6, s7, s8, s9, s10, s11, .val (.int v), s13, s14] := by
  rcases h with rfl | ⟨w, rfl, hw⟩
  · rfl
  · cases w <;> first | rfl | (simp [Value.category] at hw)
set_option maxRecDepth 65536 in
set_option maxHeartbeats 40000000 in
theorem own_n2a {p : Program} {l : Launch} {e : Env} {R : Room} {s : State} {m : MethodId} {args : Array Value} {below : List Frame} {meth : Method} {c : Code} {T0 : State} {locs : List Loc} {cells slots : Nat} {Z : State} {a0 : Array Value} {h0 : Heap} (s0 : Slot) (s1 : Slot) (s2 : Slot) (s3 : Slot) (s4 : Slot) (s5 : Slot) (i6 : Int32) (s7 : Slot) (s8 : Slot) (s9 : Slot) (s10 : Slot) (s11 : Slot) (s12 : Slot) (s13 : Slot) (s14 : Slot)
    (X0 : Stand p l e R s m args below meth c T0 locs cells slots) (hx : p.tables.exec = Jvm.exec) (hZ : Z.Warmed39 s.vm) (hw : ∀ d ∈ tables_1, d.before a0 Z = true) (hby : c.code = code) (hml : c.maxLocals = 15) (hown : s.vm.findClass "com/example/redress/redress/definition/WaitersFirstPinLaw" = some m.cls) (e0 : T0.heap = h0) (hs12 : One s12) (hc150 : ¬ ((2 : Int32) < i6)) :
    ∃ (T' : State), Stand p l e R s m args below meth c T' locs cells slots ∧ T'.heap = h0 ∧
      ∀ target, Steps p.tables e below (T'.setTop (mkF m 172 #[s0, s1, s2, s3, s4, s5, .val (.int i6), s7, s8, s9, s10, s11, .val (.int (0 : Int32)), s13, s14] [])) target → Steps p.tables e below (T0.setTop (mkF m 147 #[s0, s1, s2, s3, s4, s5, .val (.int i6), s7, s8, s9, s10, s11, s12, s13, s14] [])) target := by

  refine ⟨T0, X0, e0, fun target kt => ?_⟩
  show Steps p.tables e below (T0.setTop (mkF m 147 #[s0, s1, s2, s3, s4, s5, .val (.int i6), s7, s8, s9, s10, s11, s12, s13, s14] [])) _
  refine XS.iload X0.here hx rfl (hb hby at_147) rfl ?_
  show Steps p.tables e below (T0.setTop (mkF m 149 #[s0, s1, s2, s3, s4, s5, .val (.int i6), s7, s8, s9, s10, s11, s12, s13, s14] [(.int i6)])) _
  refine XS.iconst X0.here hx rfl (hb hby at_149) ?_
  show Steps p.tables e below (T0.setTop (mkF m 150 #[s0, s1, s2, s3, s4, s5, .val (.int i6), s7, s8, s9, s10, s11, s12, s13, s14] [(.int (2 : Int32)), (.int i6)])) _
  refine XS.icmpYes X0.here hx rfl (pc0 := 150) (pc' := 169) rfl (hb hby at_150) rfl (flt hc150).2.2.2 (by decide) (by decide) ?_
  show Steps p.tables e below (T0.setTop (mkF m 169 #[s0, s1, s2, s3, s4, s5, .val (.int i6), s7, s8, s9, s10, s11, s12, s13, s14] [])) _
  refine XS.iconst X0.here hx rfl (hb hby at_169) ?_
  show Steps p.tables e below (T0.setTop (mkF m 170 #[s0, s1, s2, s3, s4, s5, .val (.int i6), s7, s8, s9, s10, s11, s12, s13, s14] [(.int (0 : Int32))])) _
  refine XS.istore X0.here hx rfl (hb hby at_170) rfl (l' := #[s0, s1, s2, s3, s4, s5, .val (.int i6), s7, s8, s9, s10, s11, .val (.int (0 : Int32)), s13, s14]) (os0_170 hs12) ?_
  exact kt
set_option maxRecDepth 65536 in
set_option maxHeartbeats 40000000 in
theorem own_n2b {p : Program} {l : Launch} {e : Env} {R : Room} {s : State} {m : MethodId} {args : Array Value} {below : List Frame} {meth : Method} {c : Code} {T0 : State} {locs : List Loc} {cells slots : Nat} {Z : State} {a0 : Array Value} {h0 : Heap} (s0 : Slot) (s1 : Slot) (s2 : Slot) (s3 : Slot) (s4 : Slot) (s5 : Slot) (i6 : Int32) (s7 : Slot) (s8 : Slot) (i9 : Int32) (i10 : Int32) (s11 : Slot) (s12 : Slot) (s13 : Slot) (s14 : Slot)
    (X0 : Stand p l e R s m args below meth c T0 locs cells slots) (hx : p.tables.exec = Jvm.exec) (hZ : Z.Warmed39 s.vm) (hw : ∀ d ∈ tables_1, d.before a0 Z = true) (hby : c.code = code) (hml : c.maxLocals = 15) (hown : s.vm.findClass "com/example/redress/redress/definition/WaitersFirstPinLaw" = some m.cls) (e0 : T0.heap = h0) (hs12 : One s12) (hc150 : (2 : Int32) < i6) (hc157 : ¬ (i9 = i10)) :
    ∃ (T' : State), Stand p l e R s m args below meth c T' locs cells slots ∧ T'.heap = h0 ∧
      ∀ target, Steps p.tables e below (T'.setTop (mkF m 172 #[s0, s1, s2, s3, s4, s5, .val (.int i6), s7, s8, .val (.int i9), .val (.int i10), s11, .val (.int (0 : Int32)), s13, s14] [])) target → Steps p.tables e below (T0.setTop (mkF m 147 #[s0, s1, s2, s3, s4, s5, .val (.int i6), s7, s8, .val (.int i9), .val (.int i10), s11, s12, s13, s14] [])) target := by

  refine ⟨T0, X0, e0, fun target kt => ?_⟩
  show Steps p.tables e below (T0.setTop (mkF m 147 #[s0, s1, s2, s3, s4, s5, .val (.int i6), s7, s8, .val (.int i9), .val (.int i10), s11, s12, s13, s14] [])) _
  refine XS.iload X0.here hx rfl (hb hby at_147) rfl ?_
  show Steps p.tables e below (T0.setTop (mkF m 149 #[s0, s1, s2, s3, s4, s5, .val (.int i6), s7, s8, .val (.int i9), .val (.int i10), s11, s12, s13, s14] [(.int i6)])) _
  refine XS.iconst X0.here hx rfl (hb hby at_149) ?_
  show Steps p.tables e below (T0.setTop (mkF m 150 #[s0, s1, s2, s3, s4, s5, .val (.int i6), s7, s8, .val (.int i9), .val (.int i10), s11, s12, s13, s14] [(.int (2 : Int32)), (.int i6)])) _
  refine XS.icmpNo X0.here hx rfl (hb hby at_150) rfl (tlt hc150).2.2.2 ?_
  show Steps p.tables e below (T0.setTop (mkF m 153 #[s0, s1, s2, s3, s4, s5, .val (.int i6), s7, s8, .val (.int i9), .val (.int i10), s11, s12, s13, s14] [])) _
  refine XS.iload X0.here hx rfl (hb hby at_153) rfl ?_
  show Steps p.tables e below (T0.setTop (mkF m 155 #[s0, s1, s2, s3, s4, s5, .val (.int i6), s7, s8, .val (.int i9), .val (.int i10), s11, s12, s13, s14] [(.int i9)])) _
  refine XS.iload X0.here hx rfl (hb hby at_155) rfl ?_
  show Steps p.tables e below (T0.setTop (mkF m 157 #[s0, s1, s2, s3, s4, s5, .val (.int i6), s7, s8, .val (.int i9), .val (.int i10), s11, s12, s13, s14] [(.int i10), (.int i9)])) _
  refine XS.icmpYes X0.here hx rfl (pc0 := 157) (pc' := 169) rfl (hb hby at_157) rfl (feq hc157).2 (by decide) (by decide) ?_
  show Steps p.tables e below (T0.setTop (mkF m 169 #[s0, s1, s2, s3, s4, s5, .val (.int i6), s7, s8, .val (.int i9), .val (.int i10), s11, s12, s13, s14] [])) _
  refine XS.iconst X0.here hx rfl (hb hby at_169) ?_
  show Steps p.tables e below (T0.setTop (mkF m 170 #[s0, s1, s2, s3, s4, s5, .val (.int i6), s7, s8, .val (.int i9), .val (.int i10), s11, s12, s13, s14] [(.int (0 : Int32))])) _
  refine XS.istore X0.here hx rfl (hb hby at_170) rfl (l' := #[s0, s1, s2, s3, s4, s5, .val (.int i6), s7, s8, .val (.int i9), .val (.int i10), s11, .val (.int (0 : Int32)), s13, s14]) (os0_170 hs12) ?_
  exact kt
theorem os0_161 {s0 : Slot} {s1 : Slot} {s2 : Slot} {z3 : Value} {s4 : Slot} {s5 : Slot} {z6 : Value} {s7 : Slot} {s8 : Slot} {z9 : Value} {z10 : Value} {s11 : Slot} {s12 : Slot} {s13 : Slot} {s14 : Slot} {v : Int32} (h : One s12) : storeLocals #[s0, s1, s2, .val z3, s4, s5, .val z6, s7, s8, .val z9, .val z10, s11, s12, s13, s14] 12 (.int v) = some #[s0, s1, s2, .val z3, s4, s5, .val z6, s7, s8, .val z9, .val z10, s11, .val (.int v), s13, s14] := by
  rcases h with rfl | ⟨w, rfl, hw⟩
  · rfl
  · cases w <;> first | rfl | (simp [Value.category] at hw)
theorem os0_164 {s0 : Slot} {s1 : Slot} {s2 : Slot} {z3 : Value} {s4 : Slot} {s5 : Slot} {z6 : Value} {s7 : Slot} {s8 : Slot} {z9 : Value} {z10 : Value} {s11 : Slot} {z12 : Value} {s13 : Slot} {s14 : Slot} {v : Int32} (h : One s13) : storeLocals #[s0, s1, s2, .val z3, s4, s5, .val z6, s7, s8, .val z9, .val z10, s11, .val z12, s13, s14] 13 (.int v) = some #[s0, s1, s2, .val z3, s4, s5, .val z6, s7, s8, .val z9, .val z10, s11, .val z12, .val (.int v), s14] := by
  rcases h with rfl | ⟨w, rfl, hw⟩
  · rfl
  · cases w <;> first | rfl | (simp [Value.category] at hw)
set_option maxRecDepth 65536 in
set_option maxHeartbeats 40000000 in
theorem own_y2 {p : Program} {l : Launch} {e : Env} {R : Room} {s : State} {m : MethodId} {args : Array Value} {below : List Frame} {meth : Method} {c : Code} {T0 : State} {locs : List Loc} {cells slots : Nat} {Z : State} {a0 : Array Value} {h0 : Heap} (s0 : Slot) (s1 : Slot) (s2 : Slot) (i3 : Int32) (s4 : Slot) (s5 : Slot) (i6 : Int32) (s7 : Slot) (s8 : Slot) (i9 : Int32) (i10 : Int32) (s11 : Slot) (s12 : Slot) (s13 : Slot) (s14 : Slot)
    (X0 : Stand p l e R s m args below meth c T0 locs cells slots) (hx : p.tables.exec = Jvm.exec) (hZ : Z.Warmed39 s.vm) (hw : ∀ d ∈ tables_1, d.before a0 Z = true) (hby : c.code = code) (hml : c.maxLocals = 15) (hown : s.vm.findClass "com/example/redress/redress/definition/WaitersFirstPinLaw" = some m.cls) (e0 : T0.heap = h0) (hs12 : One s12) (hs13 : One s13) (hc150 : (2 : Int32) < i6) (hc157 : i9 = i10) :
    ∃ (T' : State), Stand p l e R s m args below meth c T' locs cells slots ∧ T'.heap = h0 ∧
      ∀ target, Steps p.tables e below (T'.setTop (mkF m 172 #[s0, s1, s2, .val (.int i3), s4, s5, .val (.int i6), s7, s8, .val (.int i9), .val (.int i10), s11, .val (.int (1 : Int32)), .val (.int i3), s14] [])) target → Steps p.tables e below (T0.setTop (mkF m 147 #[s0, s1, s2, .val (.int i3), s4, s5, .val (.int i6), s7, s8, .val (.int i9), .val (.int i10), s11, s12, s13, s14] [])) target := by

  refine ⟨T0, X0, e0, fun target kt => ?_⟩
  show Steps p.tables e below (T0.setTop (mkF m 147 #[s0, s1, s2, .val (.int i3), s4, s5, .val (.int i6), s7, s8, .val (.int i9), .val (.int i10), s11, s12, s13, s14] [])) _
  refine XS.iload X0.here hx rfl (hb hby at_147) rfl ?_
  show Steps p.tables e below (T0.setTop (mkF m 149 #[s0, s1, s2, .val (.int i3), s4, s5, .val (.int i6), s7, s8, .val (.int i9), .val (.int i10), s11, s12, s13, s14] [(.int i6)])) _
  refine XS.iconst X0.here hx rfl (hb hby at_149) ?_
  show Steps p.tables e below (T0.setTop (mkF m 150 #[s0, s1, s2, .val (.int i3), s4, s5, .val (.int i6), s7, s8, .val (.int i9), .val (.int i10), s11, s12, s13, s14] [(.int (2 : Int32)), (.int i6)])) _
  refine XS.icmpNo X0.here hx rfl (hb hby at_150) rfl (tlt hc150).2.2.2 ?_
  show Steps p.tables e below (T0.setTop (mkF m 153 #[s0, s1, s2, .val (.int i3), s4, s5, .val (.int i6), s7, s8, .val (.int i9), .val (.int i10), s11, s12, s13, s14] [])) _
  refine XS.iload X0.here hx rfl (hb hby at_153) rfl ?_
  show Steps p.tables e below (T0.setTop (mkF m 155 #[s0, s1, s2, .val (.int i3), s4, s5, .val (.int i6), s7, s8, .val (.int i9), .val (.int i10), s11, s12, s13, s14] [(.int i9)])) _
  refine XS.iload X0.here hx rfl (hb hby at_155) rfl ?_
  show Steps p.tables e below (T0.setTop (mkF m 157 #[s0, s1, s2, .val (.int i3), s4, s5, .val (.int i6), s7, s8, .val (.int i9), .val (.int i10), s11, s12, s13, s14] [(.int i10), (.int i9)])) _
  refine XS.icmpNo X0.here hx rfl (hb hby at_157) rfl (teq hc157).2 ?_
  show Steps p.tables e below (T0.setTop (mkF m 160 #[s0, s1, s2, .val (.int i3), s4, s5, .val (.int i6), s7, s8, .val (.int i9), .val (.int i10), s11, s12, s13, s14] [])) _
  refine XS.iconst X0.here hx rfl (hb hby at_160) ?_
  show Steps p.tables e below (T0.setTop (mkF m 161 #[s0, s1, s2, .val (.int i3), s4, s5, .val (.int i6), s7, s8, .val (.int i9), .val (.int i10), s11, s12, s13, s14] [(.int (1 : Int32))])) _
  refine XS.istore X0.here hx rfl (hb hby at_161) rfl (l' := #[s0, s1, s2, .val (.int i3), s4, s5, .val (.int i6), s7, s8, .val (.int i9), .val (.int i10), s11, .val (.int (1 : Int32)), s13, s14]) (os0_161 hs12) ?_
  show Steps p.tables e below (T0.setTop (mkF m 163 #[s0, s1, s2, .val (.int i3), s4, s5, .val (.int i6), s7, s8, .val (.int i9), .val (.int i10), s11, .val (.int (1 : Int32)), s13, s14] [])) _
  refine XS.iloadN X0.here hx rfl (hb hby at_163) rfl ?_
  show Steps p.tables e below (T0.setTop (mkF m 164 #[s0, s1, s2, .val (.int i3), s4, s5, .val (.int i6), s7, s8, .val (.int i9), .val (.int i10), s11, .val (.int (1 : Int32)), s13, s14] [(.int i3)])) _
  refine XS.istore X0.here hx rfl (hb hby at_164) rfl (l' := #[s0, s1, s2, .val (.int i3), s4, s5, .val (.int i6), s7, s8, .val (.int i9), .val (.int i10), s11, .val (.int (1 : Int32)), .val (.int i3), s14]) (os0_164 hs13) ?_
  show Steps p.tables e below (T0.setTop (mkF m 166 #[s0, s1, s2, .val (.int i3), s4, s5, .val (.int i6), s7, s8, .val (.int i9), .val (.int i10), s11, .val (.int (1 : Int32)), .val (.int i3), s14] [])) _
  refine XS.goto X0.here hx rfl (pc0 := 166) (pc' := 172) rfl (hb hby at_166) (by decide) (by decide) ?_
  exact kt
theorem pd_0_7 : parseMethodDescriptor "(I)I" = some ⟨[.int], some .int⟩ := by decide +kernel
theorem os0_179 {s0 : Slot} {s1 : Slot} {s2 : Slot} {s3 : Slot} {s4 : Slot} {s5 : Slot} {s6 : Slot} {s7 : Slot} {s8 : Slot} {s9 : Slot} {z10 : Value} {z11 : Value} {s12 : Slot} {s13 : Slot} {s14 : Slot} {v : Int32} (h : One s14) : storeLocals #[s0, s1, s2, s3, s4, s5, s6, s7, s8, s9, .val z10, .val z11, s12, s13, s14] 14 (.int v) = some #[s0, s1, s2, s3, s4, s5, s6, s7, s8, s9, .val z10, .val z11, s12, s13, .val (.int v)] := by
  rcases h with rfl | ⟨w, rfl, hw⟩
  · rfl
  · cases w <;> first | rfl | (simp [Value.category] at hw)
set_option maxRecDepth 65536 in
set_option maxHeartbeats 40000000 in
theorem tn0_172_181 {p : Program} {l : Launch} {e : Env} {s : State} {m : MethodId} {args : Array Value} {below : List Frame} {meth : Method} {c : Code} {T0 : State} {locs : List Loc} {Z : State} {a0 : Array Value} {h0 : Heap} {n0 : Nat} (s0 : Slot) (s1 : Slot) (s2 : Slot) (s3 : Slot) (s4 : Slot) (s5 : Slot) (s6 : Slot) (s7 : Slot) (s8 : Slot) (s9 : Slot) (o11 : Addr) (s12 : Slot) (s13 : Slot) (s14 : Slot) (fA lA wA xA : Addr) (P Q M N n : Nat) (F G V X : Nat → Int32) (q : Nat)
    (X0 : Stand p l e room_1 s m args below meth c T0 locs 17 281) (hx : p.tables.exec = Jvm.exec) (hZ : Z.Warmed39 s.vm) (hw : ∀ d ∈ tables_1, d.before a0 Z = true) (hby : c.code = code) (hml : c.maxLocals = 15) (hown : s.vm.findClass "com/example/redress/redress/definition/WaitersFirstPinLaw" = some m.cls) (e0 : T0.heap = h0) (N0 : Fr n0 locs) (Z0 : n0 ≤ h0.size) (E_o11 : Exa Z h0 o11 "com/example/redress/redress/definition/Waiters") (hs14 : One s14) (W : own_W Z n0 h0 o11 fA lA wA xA P Q M N n F G V X) (hq : q < 2147483648) :
    ∃ (T' : State) (h' : Heap) (locs' : List Loc), Stand p l e room_1 s m args below meth c T' locs' 17 281 ∧ T'.heap = h' ∧ Fr n0 locs' ∧ n0 ≤ h'.size ∧ (h' = h0) ∧
      ∀ target, Steps p.tables e below (T'.setTop (mkF m 181 #[s0, s1, s2, s3, s4, s5, s6, s7, s8, s9, .val (.int (Int32.ofNat q)), .val (.ref o11), s12, s13, .val (.int (own_e F P q))] [])) target → Steps p.tables e below (T0.setTop (mkF m 172 #[s0, s1, s2, s3, s4, s5, s6, s7, s8, s9, .val (.int (Int32.ofNat q)), .val (.ref o11), s12, s13, s14] [])) target := by
  obtain ⟨cq7, kq7, q7a, q7b, q7c⟩ := isOf hZ e0 E_o11
  obtain ⟨_, _, ⟨T7, L7, k7, n7⟩, -, X7, ⟨Lc7, hQ7, l7, y7, z7⟩, st7⟩ := X0.virtualBack hx (y := (⟨"com/example/redress/redress/definition/Waiters", "first", "(I)I"⟩ : MethodName)) (z := (⟨"com/example/redress/redress/definition/Waiters", "first", "(I)I"⟩ : MethodName)) hown (mvT hZ (hw _ (List.mem_of_getElem? (i := 46) rfl))) (mvT hZ (hw _ (List.mem_of_getElem? (i := 47) rfl))) (notFace_of_selects (args := #[]) (mvT hZ (hw _ (List.mem_of_getElem? (i := 49) rfl)))) (mvT hZ (hw _ (List.mem_of_getElem? (i := 49) rfl))) (mvT hZ (hw _ (List.mem_of_getElem? (i := 48) rfl))) (by decide) (backOf (W := 0) (own_fst l Z a0 hw [] o11 fA lA wA xA P Q M N n F G V X q hq h0 n0 Z0 W) hZ (hw _ (List.mem_of_getElem? (i := 50) rfl)) (hw _ (List.mem_of_getElem? (i := 2) rfl)) (by decide) (by decide)) q7a q7c (g := (mkF m 176 #[s0, s1, s2, s3, s4, s5, s6, s7, s8, s9, .val (.int (Int32.ofNat q)), .val (.ref o11), s12, s13, s14] [(.int (Int32.ofNat q)), (.ref o11)])) rfl (by rw [hml]; rfl) (Steps.refl _) (argsL := [(.int (Int32.ofNat q))]) (rest := []) (lenOf pd_0_7 rfl) rfl (by show 2 * 0 + _ ≤ _; exact Nat.le_of_eq rfl) (hb hby at_176) (fun _ _ => ⟨rfl, e0, (Nat.le_of_ble_eq_true rfl), (Nat.le_of_ble_eq_true rfl)⟩)
  dsimp only [Pt.U, Pt.locs, Pt.cells, Pt.slots] at X7 l7 y7 z7 st7 hQ7
  subst l7 y7 z7
  obtain ⟨rfl, N7q, q7⟩ := hQ7
  have N7 := Fr.app N0 N7q
  refine ⟨T7, _, _, X7, rfl, N7, (by rw [q7]; exact Z0), q7, fun target kt => ?_⟩
  show Steps p.tables e below (T0.setTop (mkF m 172 #[s0, s1, s2, s3, s4, s5, s6, s7, s8, s9, .val (.int (Int32.ofNat q)), .val (.ref o11), s12, s13, s14] [])) _
  refine XS.aload X0.here hx rfl (hb hby at_172) rfl rfl ?_
  show Steps p.tables e below (T0.setTop (mkF m 174 #[s0, s1, s2, s3, s4, s5, s6, s7, s8, s9, .val (.int (Int32.ofNat q)), .val (.ref o11), s12, s13, s14] [(.ref o11)])) _
  refine XS.iload X0.here hx rfl (hb hby at_174) rfl ?_
  show Steps p.tables e below (T0.setTop (mkF m 176 #[s0, s1, s2, s3, s4, s5, s6, s7, s8, s9, .val (.int (Int32.ofNat q)), .val (.ref o11), s12, s13, s14] [(.int (Int32.ofNat q)), (.ref o11)])) _
  refine st7.trans ?_
  show Steps p.tables e below (T7.setTop (mkF m 179 #[s0, s1, s2, s3, s4, s5, s6, s7, s8, s9, .val (.int (Int32.ofNat q)), .val (.ref o11), s12, s13, s14] [(.int (own_e F P q))])) _
  refine XS.istore X7.here hx rfl (hb hby at_179) rfl (l' := #[s0, s1, s2, s3, s4, s5, s6, s7, s8, s9, .val (.int (Int32.ofNat q)), .val (.ref o11), s12, s13, .val (.int (own_e F P q))]) (os0_179 hs14) ?_
  exact kt
set_option maxRecDepth 65536 in
set_option maxHeartbeats 40000000 in
theorem tn0_181_196 {p : Program} {l : Launch} {e : Env} {R : Room} {s : State} {m : MethodId} {args : Array Value} {below : List Frame} {meth : Method} {c : Code} {T0 : State} {locs : List Loc} {cells slots : Nat} {Z : State} {a0 : Array Value} {h0 : Heap} (s0 : Slot) (s1 : Slot) (s2 : Slot) (s3 : Slot) (s4 : Slot) (s5 : Slot) (s6 : Slot) (s7 : Slot) (s8 : Slot) (s9 : Slot) (s10 : Slot) (s11 : Slot) (i12 : Int32) (s13 : Slot) (i14 : Int32)
    (X0 : Stand p l e R s m args below meth c T0 locs cells slots) (hx : p.tables.exec = Jvm.exec) (hZ : Z.Warmed39 s.vm) (hw : ∀ d ∈ tables_1, d.before a0 Z = true) (hby : c.code = code) (hml : c.maxLocals = 15) (hown : s.vm.findClass "com/example/redress/redress/definition/WaitersFirstPinLaw" = some m.cls) (e0 : T0.heap = h0) (hc183 : i12 = (0 : Int32)) (hc188 : i14 < (0 : Int32)) :
    ∃ (T' : State), Stand p l e R s m args below meth c T' locs cells slots ∧ T'.heap = h0 ∧
      ∀ target, Steps p.tables e below (T'.setTop (mkF m 196 #[s0, s1, s2, s3, s4, s5, s6, s7, s8, s9, s10, s11, .val (.int i12), s13, .val (.int i14)] [(.int (1 : Int32))])) target → Steps p.tables e below (T0.setTop (mkF m 181 #[s0, s1, s2, s3, s4, s5, s6, s7, s8, s9, s10, s11, .val (.int i12), s13, .val (.int i14)] [])) target := by

  refine ⟨T0, X0, e0, fun target kt => ?_⟩
  show Steps p.tables e below (T0.setTop (mkF m 181 #[s0, s1, s2, s3, s4, s5, s6, s7, s8, s9, s10, s11, .val (.int i12), s13, .val (.int i14)] [])) _
  refine XS.iload X0.here hx rfl (hb hby at_181) rfl ?_
  show Steps p.tables e below (T0.setTop (mkF m 183 #[s0, s1, s2, s3, s4, s5, s6, s7, s8, s9, s10, s11, .val (.int i12), s13, .val (.int i14)] [(.int i12)])) _
  refine XS.ifNo X0.here hx rfl (hb hby at_183) rfl ((if0 _ _).trans (teq hc183).2) ?_
  show Steps p.tables e below (T0.setTop (mkF m 186 #[s0, s1, s2, s3, s4, s5, s6, s7, s8, s9, s10, s11, .val (.int i12), s13, .val (.int i14)] [])) _
  refine XS.iload X0.here hx rfl (hb hby at_186) rfl ?_
  show Steps p.tables e below (T0.setTop (mkF m 188 #[s0, s1, s2, s3, s4, s5, s6, s7, s8, s9, s10, s11, .val (.int i12), s13, .val (.int i14)] [(.int i14)])) _
  refine XS.ifNo X0.here hx rfl (hb hby at_188) rfl ((if0 _ _).trans (tlt hc188).2.1) ?_
  show Steps p.tables e below (T0.setTop (mkF m 191 #[s0, s1, s2, s3, s4, s5, s6, s7, s8, s9, s10, s11, .val (.int i12), s13, .val (.int i14)] [])) _
  refine XS.iconst X0.here hx rfl (hb hby at_191) ?_
  show Steps p.tables e below (T0.setTop (mkF m 192 #[s0, s1, s2, s3, s4, s5, s6, s7, s8, s9, s10, s11, .val (.int i12), s13, .val (.int i14)] [(.int (1 : Int32))])) _
  refine XS.goto X0.here hx rfl (pc0 := 192) (pc' := 196) rfl (hb hby at_192) (by decide) (by decide) ?_
  exact kt
set_option maxRecDepth 65536 in
set_option maxHeartbeats 40000000 in
theorem tn0_181_228 {p : Program} {l : Launch} {e : Env} {s : State} {m : MethodId} {args : Array Value} {below : List Frame} {meth : Method} {c : Code} {T0 : State} {locs : List Loc} {Z : State} {a0 : Array Value} {h0 : Heap} {n0 : Nat} (s0 : Slot) (s1 : Slot) (s2 : Slot) (s3 : Slot) (s4 : Slot) (s5 : Slot) (i6 : Int32) (s7 : Slot) (s8 : Slot) (s9 : Slot) (s10 : Slot) (o11 : Addr) (i12 : Int32) (i13 : Int32) (fA lA wA xA : Addr) (P Q M N n : Nat) (F G V X : Nat → Int32) (i : Nat)
    (X0 : Stand p l e room_1 s m args below meth c T0 locs 17 281) (hx : p.tables.exec = Jvm.exec) (hZ : Z.Warmed39 s.vm) (hw : ∀ d ∈ tables_1, d.before a0 Z = true) (hby : c.code = code) (hml : c.maxLocals = 15) (hown : s.vm.findClass "com/example/redress/redress/definition/WaitersFirstPinLaw" = some m.cls) (e0 : T0.heap = h0) (N0 : Fr n0 locs) (Z0 : n0 ≤ h0.size) (E_o11 : Exa Z h0 o11 "com/example/redress/redress/definition/Waiters") (hc183 : ¬ (i12 = (0 : Int32))) (hc199 : ¬ ((Int32.ofNat i) < (0 : Int32))) (hc206 : (Int32.ofNat i) < i6) (W : own_W Z n0 h0 o11 fA lA wA xA P Q M N n F G V X) (hi : i < M) (hv : V i = i13) :
    ∃ (T' : State) (h' : Heap) (locs' : List Loc), Stand p l e room_1 s m args below meth c T' locs' 17 281 ∧ T'.heap = h' ∧ Fr n0 locs' ∧ n0 ≤ h'.size ∧ (h' = h0) ∧
      ∀ target, Steps p.tables e below (T'.setTop (mkF m 228 #[s0, s1, s2, s3, s4, s5, .val (.int i6), s7, s8, s9, s10, .val (.ref o11), .val (.int i12), .val (.int i13), .val (.int (Int32.ofNat i))] [(.int (1 : Int32))])) target → Steps p.tables e below (T0.setTop (mkF m 181 #[s0, s1, s2, s3, s4, s5, .val (.int i6), s7, s8, s9, s10, .val (.ref o11), .val (.int i12), .val (.int i13), .val (.int (Int32.ofNat i))] [])) target := by
  obtain ⟨cq7, kq7, q7a, q7b, q7c⟩ := isOf hZ e0 E_o11
  obtain ⟨_, _, ⟨T7, L7, k7, n7⟩, -, X7, ⟨Lc7, hQ7, l7, y7, z7⟩, st7⟩ := X0.virtualBack hx (y := (⟨"com/example/redress/redress/definition/Waiters", "waiter", "(I)I"⟩ : MethodName)) (z := (⟨"com/example/redress/redress/definition/Waiters", "waiter", "(I)I"⟩ : MethodName)) hown (mvT hZ (hw _ (List.mem_of_getElem? (i := 51) rfl))) (mvT hZ (hw _ (List.mem_of_getElem? (i := 52) rfl))) (notFace_of_selects (args := #[]) (mvT hZ (hw _ (List.mem_of_getElem? (i := 54) rfl)))) (mvT hZ (hw _ (List.mem_of_getElem? (i := 54) rfl))) (mvT hZ (hw _ (List.mem_of_getElem? (i := 53) rfl))) (by decide) (backOf (W := 0) (own_wtr l Z a0 hw [] o11 fA lA wA xA P Q M N n F G V X i hi h0 n0 Z0 W) hZ (hw _ (List.mem_of_getElem? (i := 55) rfl)) (hw _ (List.mem_of_getElem? (i := 2) rfl)) (by decide) (by decide)) q7a q7c (g := (mkF m 215 #[s0, s1, s2, s3, s4, s5, .val (.int i6), s7, s8, s9, s10, .val (.ref o11), .val (.int i12), .val (.int i13), .val (.int (Int32.ofNat i))] [(.int (Int32.ofNat i)), (.ref o11)])) rfl (by rw [hml]; rfl) (Steps.refl _) (argsL := [(.int (Int32.ofNat i))]) (rest := []) (lenOf pd_0_7 rfl) rfl (by show 2 * 0 + _ ≤ _; exact Nat.le_of_eq rfl) (hb hby at_215) (fun _ _ => ⟨rfl, e0, (Nat.le_of_ble_eq_true rfl), (Nat.le_of_ble_eq_true rfl)⟩)
  dsimp only [Pt.U, Pt.locs, Pt.cells, Pt.slots] at X7 l7 y7 z7 st7 hQ7
  subst l7 y7 z7
  obtain ⟨rfl, N7q, q7⟩ := hQ7
  have N7 := Fr.app N0 N7q
  refine ⟨T7, _, _, X7, rfl, N7, (by rw [q7]; exact Z0), q7, fun target kt => ?_⟩
  show Steps p.tables e below (T0.setTop (mkF m 181 #[s0, s1, s2, s3, s4, s5, .val (.int i6), s7, s8, s9, s10, .val (.ref o11), .val (.int i12), .val (.int i13), .val (.int (Int32.ofNat i))] [])) _
  refine XS.iload X0.here hx rfl (hb hby at_181) rfl ?_
  show Steps p.tables e below (T0.setTop (mkF m 183 #[s0, s1, s2, s3, s4, s5, .val (.int i6), s7, s8, s9, s10, .val (.ref o11), .val (.int i12), .val (.int i13), .val (.int (Int32.ofNat i))] [(.int i12)])) _
  refine XS.ifYes X0.here hx rfl (pc0 := 183) (pc' := 197) rfl (hb hby at_183) rfl ((if0 _ _).trans (feq hc183).2) (by decide) (by decide) ?_
  show Steps p.tables e below (T0.setTop (mkF m 197 #[s0, s1, s2, s3, s4, s5, .val (.int i6), s7, s8, s9, s10, .val (.ref o11), .val (.int i12), .val (.int i13), .val (.int (Int32.ofNat i))] [])) _
  refine XS.iload X0.here hx rfl (hb hby at_197) rfl ?_
  show Steps p.tables e below (T0.setTop (mkF m 199 #[s0, s1, s2, s3, s4, s5, .val (.int i6), s7, s8, s9, s10, .val (.ref o11), .val (.int i12), .val (.int i13), .val (.int (Int32.ofNat i))] [(.int (Int32.ofNat i))])) _
  refine XS.ifNo X0.here hx rfl (hb hby at_199) rfl ((if0 _ _).trans (flt hc199).1) ?_
  show Steps p.tables e below (T0.setTop (mkF m 202 #[s0, s1, s2, s3, s4, s5, .val (.int i6), s7, s8, s9, s10, .val (.ref o11), .val (.int i12), .val (.int i13), .val (.int (Int32.ofNat i))] [])) _
  refine XS.iload X0.here hx rfl (hb hby at_202) rfl ?_
  show Steps p.tables e below (T0.setTop (mkF m 204 #[s0, s1, s2, s3, s4, s5, .val (.int i6), s7, s8, s9, s10, .val (.ref o11), .val (.int i12), .val (.int i13), .val (.int (Int32.ofNat i))] [(.int (Int32.ofNat i))])) _
  refine XS.iload X0.here hx rfl (hb hby at_204) rfl ?_
  show Steps p.tables e below (T0.setTop (mkF m 206 #[s0, s1, s2, s3, s4, s5, .val (.int i6), s7, s8, s9, s10, .val (.ref o11), .val (.int i12), .val (.int i13), .val (.int (Int32.ofNat i))] [(.int i6), (.int (Int32.ofNat i))])) _
  refine XS.icmpYes X0.here hx rfl (pc0 := 206) (pc' := 211) rfl (hb hby at_206) rfl (tlt hc206).1 (by decide) (by decide) ?_
  show Steps p.tables e below (T0.setTop (mkF m 211 #[s0, s1, s2, s3, s4, s5, .val (.int i6), s7, s8, s9, s10, .val (.ref o11), .val (.int i12), .val (.int i13), .val (.int (Int32.ofNat i))] [])) _
  refine XS.aload X0.here hx rfl (hb hby at_211) rfl rfl ?_
  show Steps p.tables e below (T0.setTop (mkF m 213 #[s0, s1, s2, s3, s4, s5, .val (.int i6), s7, s8, s9, s10, .val (.ref o11), .val (.int i12), .val (.int i13), .val (.int (Int32.ofNat i))] [(.ref o11)])) _
  refine XS.iload X0.here hx rfl (hb hby at_213) rfl ?_
  show Steps p.tables e below (T0.setTop (mkF m 215 #[s0, s1, s2, s3, s4, s5, .val (.int i6), s7, s8, s9, s10, .val (.ref o11), .val (.int i12), .val (.int i13), .val (.int (Int32.ofNat i))] [(.int (Int32.ofNat i)), (.ref o11)])) _
  refine st7.trans ?_
  show Steps p.tables e below (T7.setTop (mkF m 218 #[s0, s1, s2, s3, s4, s5, .val (.int i6), s7, s8, s9, s10, .val (.ref o11), .val (.int i12), .val (.int i13), .val (.int (Int32.ofNat i))] [(.int (V i))])) _
  refine XS.iload X7.here hx rfl (hb hby at_218) rfl ?_
  show Steps p.tables e below (T7.setTop (mkF m 220 #[s0, s1, s2, s3, s4, s5, .val (.int i6), s7, s8, s9, s10, .val (.ref o11), .val (.int i12), .val (.int i13), .val (.int (Int32.ofNat i))] [(.int i13), (.int (V i))])) _
  refine XS.icmpNo X7.here hx rfl (hb hby at_220) rfl (teq hv).2 ?_
  show Steps p.tables e below (T7.setTop (mkF m 223 #[s0, s1, s2, s3, s4, s5, .val (.int i6), s7, s8, s9, s10, .val (.ref o11), .val (.int i12), .val (.int i13), .val (.int (Int32.ofNat i))] [])) _
  refine XS.iconst X7.here hx rfl (hb hby at_223) ?_
  show Steps p.tables e below (T7.setTop (mkF m 224 #[s0, s1, s2, s3, s4, s5, .val (.int i6), s7, s8, s9, s10, .val (.ref o11), .val (.int i12), .val (.int i13), .val (.int (Int32.ofNat i))] [(.int (1 : Int32))])) _
  refine XS.goto X7.here hx rfl (pc0 := 224) (pc' := 228) rfl (hb hby at_224) (by decide) (by decide) ?_
  exact kt
theorem pn_0 : plainName "com/example/redress/redress/definition/WaitersFirstPinLaw" = true := by first | (simp [plainName, overriddenIn]; done) | decide +kernel
theorem ef_0 (m : MethodId) (x0 : Int32) (x1 : Int32) (x2 : Int32) (x3 : Int32) (x4 : Int32) (x5 : Int32) : entryFrame m #[(.int x0), (.int x1), (.int x2), (.int x3), (.int x4), (.int x5)] maxLocals = mkF m 0 #[.val (.int x0), .val (.int x1), .val (.int x2), .val (.int x3), .val (.int x4), .val (.int x5), .unset, .unset, .unset, .unset, .unset, .unset, .unset, .unset, .unset] [] := by first | (simp [entryFrame, mkF, argsToLocals, Value.category, maxLocals]; done) | rfl

set_option maxRecDepth 65536 in
set_option maxHeartbeats 40000000 in
theorem rm0 (l : Launch) (Z : State) (a0 : Array Value) (hw : ∀ d ∈ tables_1, d.before a0 Z = true) (ws : List Jvm.Cond) (p1 p2 p3 p4 p5 p6 : Int32) (h0 : Heap) (n0 : Nat) (Z0 : n0 ≤ h0.size) :
    MetFree l x (head1 (Jvm.Cond.code x code maxLocals ret :: ws) room_1) (fun a U => a = #[(.int p1), (.int p2), (.int p3), (.int p4), (.int p5), (.int p6)] ∧ Z.Warmed39 U.vm ∧ U.heap = h0) (fun _ _ _ _ _ => True) (fun _ U o U' => ∃ v L, o = .returned v ∧ (v = some (.int 1) ∧ Fr n0 L) ∧ FrameEnd U o U' L room_1.cells room_1.slots) := by
  refine MetFree.of_bodySF (plainFor_of_name pn_0) hisR ?_
  intro p e s m args below meth c s₁ Bd hml0 hP hK
  obtain ⟨rfl, hZ, hh⟩ := hP
  have hx := Bd.exec
  have hby := Bd.bytes
  have hml : c.maxLocals = 15 := hml0
  have hown : s.vm.findClass "com/example/redress/redress/definition/WaitersFirstPinLaw" = some m.cls := findClass_of_methodNamed Bd.named
  have hnm := (name_of_methodNamed Bd.named Bd.method).1
  have X0 : Stand p l e room_1 s m #[(.int p1), (.int p2), (.int p3), (.int p4), (.int p5), (.int p6)] below meth c s₁ [] 0 0 := Stand.of_body Bd
  have e0 : s₁.heap = h0 := by rw [← hh, Bd.state]; rfl
  have N0 := Fr.nil n0
  have pre0 : ∀ t, Steps p.tables e below (s₁.setTop (mkF m 0 #[.val (.int p1), .val (.int p2), .val (.int p3), .val (.int p4), .val (.int p5), .val (.int p6), .unset, .unset, .unset, .unset, .unset, .unset, .unset, .unset, .unset] [])) t → Steps p.tables e below (s₁.setTop (entryFrame m #[(.int p1), (.int p2), (.int p3), (.int p4), (.int p5), (.int p6)] maxLocals)) t := fun t k => castTop (ef_0 m p1 p2 p3 p4 p5 p6) k
  obtain ⟨nn, hnn, en⟩ := own_and p6 3 2 (by decide)
  obtain ⟨a, ha, ea⟩ := own_and p1 15 4 (by decide)
  obtain ⟨b, hb', eb⟩ := own_and ((p1.toUInt32 >>> ((4 : Int32) &&& 31).toUInt32).toInt32) 15 4 (by decide)
  obtain ⟨d, hd, ed⟩ := own_and ((p1.toUInt32 >>> ((8 : Int32) &&& 31).toUInt32).toInt32) 15 4 (by decide)
  obtain ⟨q1, hq1, eq1⟩ := own_and p5 2147483647 31 (by decide)
  obtain ⟨q2, hq2, eq2⟩ := own_and p5 15 4 (by decide)
  obtain ⟨qn, T1, hqn, X1, e1, st1⟩ : ∃ (qn : Nat) (T' : State), qn < 2147483648 ∧ Stand p l e room_1 s m _ below meth c T' [] 0 0 ∧ T'.heap = h0 ∧ ∀ target, Steps p.tables e below (T'.setTop (mkF m 51 #[.val (.int p1), .val (.int p2), .val (.int p3), .val (.int p4), .val (.int p5), .val (.int p6), .val (.int (Int32.ofNat nn)), .val (.int (Int32.ofNat a)), .val (.int (Int32.ofNat b)), .val (.int (Int32.ofNat d)), .val (.int (Int32.ofNat qn)), .unset, .unset, .unset, .unset] [])) target → Steps p.tables e below (s₁.setTop (mkF m 0 #[.val (.int p1), .val (.int p2), .val (.int p3), .val (.int p4), .val (.int p5), .val (.int p6), .unset, .unset, .unset, .unset, .unset, .unset, .unset, .unset, .unset] [])) target := by
    by_cases hc : (p6 &&& (4 : Int32)) = (0 : Int32)
    · obtain ⟨T', X', e', st'⟩ := own_b1 p1 (.val (.int p2)) (.val (.int p3)) (.val (.int p4)) p5 p6 X0 hx hZ hw hby hml hown e0 One.u One.u One.u One.u One.u hc
      rw [en, ea, eb, ed, eq2] at st'
      exact ⟨q2, T', by omega, X', e', st'⟩
    · obtain ⟨T', X', e', st'⟩ := own_b0 p1 (.val (.int p2)) (.val (.int p3)) (.val (.int p4)) p5 p6 X0 hx hZ hw hby hml hown e0 One.u One.u One.u One.u One.u hc
      rw [en, ea, eb, ed, eq1] at st'
      exact ⟨q1, T', by omega, X', e', st'⟩
  have N1 := N0
  have Z1 := Z0
  obtain ⟨o, T2, h2, l2, X2, e2, N2, Z2, ⟨fA, lA, wA, xA, W2⟩, st2⟩ := tn0_51_60 (.val (.int p1)) (.val (.int p2)) (.val (.int p3)) (.val (.int p4)) (.val (.int p5)) (.val (.int p6)) (.val (.int (Int32.ofNat nn))) (.val (.int (Int32.ofNat a))) (.val (.int (Int32.ofNat b))) (.val (.int (Int32.ofNat d))) (.val (.int (Int32.ofNat qn))) X1 hx hZ hw hby hml hown e1 N1 Z1 One.u
  have S2 : own_St Z n0 h2 o 0 0 (own_pt a b d) (own_vl p2 p3 p4) := ⟨by decide, fA, lA, wA, xA, 0, _, _, _, _, rfl, W2, fun i hi => absurd hi (Nat.not_lt_zero i), fun i hi => absurd hi (Nat.not_lt_zero i), fun i hi => absurd hi (Nat.not_lt_zero i), fun i hi => absurd hi (Nat.not_lt_zero i)⟩
  obtain ⟨P2, S2⟩ : ∃ P, own_St Z n0 h2 o P 0 (own_pt a b d) (own_vl p2 p3 p4) := ⟨0, S2⟩
  obtain ⟨T3, h3, l3, P3, X3, e3, N3, Z3, S3, st3⟩ : ∃ (T' : State) (h' : Heap) (locs' : List Loc) (P' : Nat), Stand p l e room_1 s m _ below meth c T' locs' 9 97 ∧ T'.heap = h' ∧ Fr n0 locs' ∧ n0 ≤ h'.size ∧ own_St Z n0 h' o P' (min nn 1) (own_pt a b d) (own_vl p2 p3 p4) ∧ ∀ target, Steps p.tables e below (T'.setTop (mkF m 73 #[.val (.int p1), .val (.int p2), .val (.int p3), .val (.int p4), .val (.int p5), .val (.int p6), .val (.int (Int32.ofNat nn)), .val (.int (Int32.ofNat a)), .val (.int (Int32.ofNat b)), .val (.int (Int32.ofNat d)), .val (.int (Int32.ofNat qn)), .val (.ref o), .unset, .unset, .unset] [])) target → Steps p.tables e below (T2.setTop (mkF m 60 #[.val (.int p1), .val (.int p2), .val (.int p3), .val (.int p4), .val (.int p5), .val (.int p6), .val (.int (Int32.ofNat nn)), .val (.int (Int32.ofNat a)), .val (.int (Int32.ofNat b)), .val (.int (Int32.ofNat d)), .val (.int (Int32.ofNat qn)), .val (.ref o), .unset, .unset, .unset] [])) target := by
    have E2 := S2.2.choose_spec.choose_spec.choose_spec.choose_spec.choose_spec.choose_spec.choose_spec.choose_spec.choose_spec.2.1.1
    by_cases hc : 0 < nn
    · have q : (min nn 1) = 0 + 1 := by omega
      have q2 : 0 = 0 := by omega
      obtain ⟨T', h', l', X', e', N', Z', ⟨P', S'⟩, st'⟩ := own_ad60 (.val (.int p1)) p2 (.val (.int p3)) (.val (.int p4)) (.val (.int p5)) (.val (.int p6)) (Int32.ofNat nn) (.val (.int (Int32.ofNat b))) (.val (.int (Int32.ofNat d))) (.val (.int (Int32.ofNat qn))) o .unset .unset .unset a P2 0 (own_pt a b d) (own_vl p2 p3 p4) X2 hx hZ hw hby hml hown e2 N2 Z2 E2 ((own_ltn (i := 0) (n := nn) (by decide) (by omega)).mpr hc) S2 (by omega) (by omega) (by rw [q2]; rfl) (by rw [q2]; rfl)
      rw [q]
      exact ⟨T', h', l', P', X', e', N', Z', S', st'⟩
    · have q : (min nn 1) = 0 := by omega
      obtain ⟨T', X', e', st'⟩ := own_sk60 (.val (.int p1)) (.val (.int p2)) (.val (.int p3)) (.val (.int p4)) (.val (.int p5)) (.val (.int p6)) (Int32.ofNat nn) (.val (.int (Int32.ofNat a))) (.val (.int (Int32.ofNat b))) (.val (.int (Int32.ofNat d))) (.val (.int (Int32.ofNat qn))) (.val (.ref o)) .unset .unset .unset X2 hx hZ hw hby hml hown e2 (mt (own_ltn (i := 0) (n := nn) (by decide) (by omega)).mp hc)
      rw [q]
      exact ⟨T', h2, l2, P2, X'.mono (by decide) (by decide), e', N2, Z2, S2, st'⟩
  obtain ⟨T4, h4, l4, P4, X4, e4, N4, Z4, S4, st4⟩ : ∃ (T' : State) (h' : Heap) (locs' : List Loc) (P' : Nat), Stand p l e room_1 s m _ below meth c T' locs' 13 189 ∧ T'.heap = h' ∧ Fr n0 locs' ∧ n0 ≤ h'.size ∧ own_St Z n0 h' o P' (min nn 2) (own_pt a b d) (own_vl p2 p3 p4) ∧ ∀ target, Steps p.tables e below (T'.setTop (mkF m 87 #[.val (.int p1), .val (.int p2), .val (.int p3), .val (.int p4), .val (.int p5), .val (.int p6), .val (.int (Int32.ofNat nn)), .val (.int (Int32.ofNat a)), .val (.int (Int32.ofNat b)), .val (.int (Int32.ofNat d)), .val (.int (Int32.ofNat qn)), .val (.ref o), .unset, .unset, .unset] [])) target → Steps p.tables e below (T3.setTop (mkF m 73 #[.val (.int p1), .val (.int p2), .val (.int p3), .val (.int p4), .val (.int p5), .val (.int p6), .val (.int (Int32.ofNat nn)), .val (.int (Int32.ofNat a)), .val (.int (Int32.ofNat b)), .val (.int (Int32.ofNat d)), .val (.int (Int32.ofNat qn)), .val (.ref o), .unset, .unset, .unset] [])) target := by
    have E3 := S3.2.choose_spec.choose_spec.choose_spec.choose_spec.choose_spec.choose_spec.choose_spec.choose_spec.choose_spec.2.1.1
    by_cases hc : 1 < nn
    · have q : (min nn 2) = (min nn 1) + 1 := by omega
      have q2 : (min nn 1) = 1 := by omega
      obtain ⟨T', h', l', X', e', N', Z', ⟨P', S'⟩, st'⟩ := own_ad73 (.val (.int p1)) (.val (.int p2)) p3 (.val (.int p4)) (.val (.int p5)) (.val (.int p6)) (Int32.ofNat nn) (.val (.int (Int32.ofNat a))) (.val (.int (Int32.ofNat d))) (.val (.int (Int32.ofNat qn))) o .unset .unset .unset b P3 (min nn 1) (own_pt a b d) (own_vl p2 p3 p4) X3 hx hZ hw hby hml hown e3 N3 Z3 E3 ((own_ltn (i := 1) (n := nn) (by decide) (by omega)).mpr hc) S3 (by omega) (by omega) (by rw [q2]; rfl) (by rw [q2]; rfl)
      rw [q]
      exact ⟨T', h', l', P', X', e', N', Z', S', st'⟩
    · have q : (min nn 2) = (min nn 1) := by omega
      obtain ⟨T', X', e', st'⟩ := own_sk73 (.val (.int p1)) (.val (.int p2)) (.val (.int p3)) (.val (.int p4)) (.val (.int p5)) (.val (.int p6)) (Int32.ofNat nn) (.val (.int (Int32.ofNat a))) (.val (.int (Int32.ofNat b))) (.val (.int (Int32.ofNat d))) (.val (.int (Int32.ofNat qn))) (.val (.ref o)) .unset .unset .unset X3 hx hZ hw hby hml hown e3 (mt (own_ltn (i := 1) (n := nn) (by decide) (by omega)).mp hc)
      rw [q]
      exact ⟨T', h3, l3, P3, X'.mono (by decide) (by decide), e', N3, Z3, S3, st'⟩
  obtain ⟨T5, h5, l5, P5, X5, e5, N5, Z5, S5, st5⟩ : ∃ (T' : State) (h' : Heap) (locs' : List Loc) (P' : Nat), Stand p l e room_1 s m _ below meth c T' locs' 17 281 ∧ T'.heap = h' ∧ Fr n0 locs' ∧ n0 ≤ h'.size ∧ own_St Z n0 h' o P' (min nn 3) (own_pt a b d) (own_vl p2 p3 p4) ∧ ∀ target, Steps p.tables e below (T'.setTop (mkF m 101 #[.val (.int p1), .val (.int p2), .val (.int p3), .val (.int p4), .val (.int p5), .val (.int p6), .val (.int (Int32.ofNat nn)), .val (.int (Int32.ofNat a)), .val (.int (Int32.ofNat b)), .val (.int (Int32.ofNat d)), .val (.int (Int32.ofNat qn)), .val (.ref o), .unset, .unset, .unset] [])) target → Steps p.tables e below (T4.setTop (mkF m 87 #[.val (.int p1), .val (.int p2), .val (.int p3), .val (.int p4), .val (.int p5), .val (.int p6), .val (.int (Int32.ofNat nn)), .val (.int (Int32.ofNat a)), .val (.int (Int32.ofNat b)), .val (.int (Int32.ofNat d)), .val (.int (Int32.ofNat qn)), .val (.ref o), .unset, .unset, .unset] [])) target := by
    have E4 := S4.2.choose_spec.choose_spec.choose_spec.choose_spec.choose_spec.choose_spec.choose_spec.choose_spec.choose_spec.2.1.1
    by_cases hc : 2 < nn
    · have q : (min nn 3) = (min nn 2) + 1 := by omega
      have q2 : (min nn 2) = 2 := by omega
      obtain ⟨T', h', l', X', e', N', Z', ⟨P', S'⟩, st'⟩ := own_ad87 (.val (.int p1)) (.val (.int p2)) (.val (.int p3)) p4 (.val (.int p5)) (.val (.int p6)) (Int32.ofNat nn) (.val (.int (Int32.ofNat a))) (.val (.int (Int32.ofNat b))) (.val (.int (Int32.ofNat qn))) o .unset .unset .unset d P4 (min nn 2) (own_pt a b d) (own_vl p2 p3 p4) X4 hx hZ hw hby hml hown e4 N4 Z4 E4 ((own_ltn (i := 2) (n := nn) (by decide) (by omega)).mpr hc) S4 (by omega) (by omega) (by rw [q2]; rfl) (by rw [q2]; rfl)
      rw [q]
      exact ⟨T', h', l', P', X', e', N', Z', S', st'⟩
    · have q : (min nn 3) = (min nn 2) := by omega
      obtain ⟨T', X', e', st'⟩ := own_sk87 (.val (.int p1)) (.val (.int p2)) (.val (.int p3)) (.val (.int p4)) (.val (.int p5)) (.val (.int p6)) (Int32.ofNat nn) (.val (.int (Int32.ofNat a))) (.val (.int (Int32.ofNat b))) (.val (.int (Int32.ofNat d))) (.val (.int (Int32.ofNat qn))) (.val (.ref o)) .unset .unset .unset X4 hx hZ hw hby hml hown e4 (mt (own_ltn (i := 2) (n := nn) (by decide) (by omega)).mp hc)
      rw [q]
      exact ⟨T', h4, l4, P4, X'.mono (by decide) (by decide), e', N4, Z4, S4, st'⟩
  rw [show min nn 3 = nn by omega] at S5
  obtain ⟨-, fA5, lA5, wA5, xA5, M5, F5, G5, V5, Y5, hM5, WW, I5⟩ := S5
  obtain ⟨T6, f12, f13, X6, e6, hf, st6⟩ : ∃ (T' : State) (f12 f13 : Int32), Stand p l e room_1 s m _ below meth c T' l5 17 281 ∧ T'.heap = h5 ∧ ((f12 = 1 ∧ ∃ i, i < nn ∧ own_pt a b d i = qn ∧ (∀ i', i' < i → own_pt a b d i' ≠ qn) ∧ f13 = own_vl p2 p3 p4 i) ∨ (f12 = 0 ∧ ∀ i, i < nn → own_pt a b d i ≠ qn)) ∧ ∀ target, Steps p.tables e below (T'.setTop (mkF m 172 #[.val (.int p1), .val (.int p2), .val (.int p3), .val (.int p4), .val (.int p5), .val (.int p6), .val (.int (Int32.ofNat nn)), .val (.int (Int32.ofNat a)), .val (.int (Int32.ofNat b)), .val (.int (Int32.ofNat d)), .val (.int (Int32.ofNat qn)), .val (.ref o), .val (.int f12), .val (.int f13), .unset] [])) target → Steps p.tables e below (T5.setTop (mkF m 101 #[.val (.int p1), .val (.int p2), .val (.int p3), .val (.int p4), .val (.int p5), .val (.int p6), .val (.int (Int32.ofNat nn)), .val (.int (Int32.ofNat a)), .val (.int (Int32.ofNat b)), .val (.int (Int32.ofNat d)), .val (.int (Int32.ofNat qn)), .val (.ref o), .unset, .unset, .unset] [])) target := by
    by_cases c0 : 0 < nn ∧ a = qn
    · obtain ⟨Ty, Xy, ey, sty⟩ := own_y0 (.val (.int p1)) p2 (.val (.int p3)) (.val (.int p4)) (.val (.int p5)) (.val (.int p6)) (Int32.ofNat nn) (Int32.ofNat a) (.val (.int (Int32.ofNat b))) (.val (.int (Int32.ofNat d))) (Int32.ofNat qn) (.val (.ref o)) .unset .unset .unset X5 hx hZ hw hby hml hown e5 One.u One.u ((own_ltn (i := 0) (n := nn) (by decide) (by omega)).mpr c0.1) (congrArg Int32.ofNat c0.2)
      exact ⟨Ty, 1, p2, Xy, ey, Or.inl ⟨rfl, 0, c0.1, c0.2, fun i' hi' => absurd hi' (Nat.not_lt_zero i'), rfl⟩, fun t kt => sty t kt⟩
    · obtain ⟨T0_, X0_, e0_, st0_⟩ : ∃ T' : State, Stand p l e room_1 s m _ below meth c T' l5 17 281 ∧ T'.heap = h5 ∧ ∀ target, Steps p.tables e below (T'.setTop (mkF m 125 #[.val (.int p1), .val (.int p2), .val (.int p3), .val (.int p4), .val (.int p5), .val (.int p6), .val (.int (Int32.ofNat nn)), .val (.int (Int32.ofNat a)), .val (.int (Int32.ofNat b)), .val (.int (Int32.ofNat d)), .val (.int (Int32.ofNat qn)), .val (.ref o), .unset, .val (.int (0 : Int32)), .unset] [])) target → Steps p.tables e below (T5.setTop (mkF m 101 #[.val (.int p1), .val (.int p2), .val (.int p3), .val (.int p4), .val (.int p5), .val (.int p6), .val (.int (Int32.ofNat nn)), .val (.int (Int32.ofNat a)), .val (.int (Int32.ofNat b)), .val (.int (Int32.ofNat d)), .val (.int (Int32.ofNat qn)), .val (.ref o), .unset, .unset, .unset] [])) target := by
        by_cases hz : 0 < nn
        · exact own_n0b (.val (.int p1)) (.val (.int p2)) (.val (.int p3)) (.val (.int p4)) (.val (.int p5)) (.val (.int p6)) (Int32.ofNat nn) (Int32.ofNat a) (.val (.int (Int32.ofNat b))) (.val (.int (Int32.ofNat d))) (Int32.ofNat qn) (.val (.ref o)) .unset .unset .unset X5 hx hZ hw hby hml hown e5 One.u ((own_ltn (i := 0) (n := nn) (by decide) (by omega)).mpr hz) (fun z => c0 ⟨hz, own_inj (by omega) (by omega) z⟩)
        · exact own_n0a (.val (.int p1)) (.val (.int p2)) (.val (.int p3)) (.val (.int p4)) (.val (.int p5)) (.val (.int p6)) (Int32.ofNat nn) (.val (.int (Int32.ofNat a))) (.val (.int (Int32.ofNat b))) (.val (.int (Int32.ofNat d))) (.val (.int (Int32.ofNat qn))) (.val (.ref o)) .unset .unset .unset X5 hx hZ hw hby hml hown e5 One.u (mt (own_ltn (i := 0) (n := nn) (by decide) (by omega)).mp hz)
      by_cases c1 : 1 < nn ∧ b = qn
      · obtain ⟨Ty, Xy, ey, sty⟩ := own_y1 (.val (.int p1)) (.val (.int p2)) p3 (.val (.int p4)) (.val (.int p5)) (.val (.int p6)) (Int32.ofNat nn) (.val (.int (Int32.ofNat a))) (Int32.ofNat b) (.val (.int (Int32.ofNat d))) (Int32.ofNat qn) (.val (.ref o)) .unset (.val (.int (0 : Int32))) .unset X0_ hx hZ hw hby hml hown e0_ One.u (One.val rfl) ((own_ltn (i := 1) (n := nn) (by decide) (by omega)).mpr c1.1) (congrArg Int32.ofNat c1.2)
        exact ⟨Ty, 1, p3, Xy, ey, Or.inl ⟨rfl, 1, c1.1, c1.2, fun i' hi' z => c0 ⟨(by omega), (by have q : i' = 0 := (by omega); subst q; exact z)⟩, rfl⟩, fun t kt => st0_ t (sty t kt)⟩
      · obtain ⟨T1_, X1_, e1_, st1_⟩ : ∃ T' : State, Stand p l e room_1 s m _ below meth c T' l5 17 281 ∧ T'.heap = h5 ∧ ∀ target, Steps p.tables e below (T'.setTop (mkF m 147 #[.val (.int p1), .val (.int p2), .val (.int p3), .val (.int p4), .val (.int p5), .val (.int p6), .val (.int (Int32.ofNat nn)), .val (.int (Int32.ofNat a)), .val (.int (Int32.ofNat b)), .val (.int (Int32.ofNat d)), .val (.int (Int32.ofNat qn)), .val (.ref o), .unset, .val (.int (0 : Int32)), .unset] [])) target → Steps p.tables e below (T0_.setTop (mkF m 125 #[.val (.int p1), .val (.int p2), .val (.int p3), .val (.int p4), .val (.int p5), .val (.int p6), .val (.int (Int32.ofNat nn)), .val (.int (Int32.ofNat a)), .val (.int (Int32.ofNat b)), .val (.int (Int32.ofNat d)), .val (.int (Int32.ofNat qn)), .val (.ref o), .unset, .val (.int (0 : Int32)), .unset] [])) target := by
          by_cases hz : 1 < nn
          · exact own_n1b (.val (.int p1)) (.val (.int p2)) (.val (.int p3)) (.val (.int p4)) (.val (.int p5)) (.val (.int p6)) (Int32.ofNat nn) (.val (.int (Int32.ofNat a))) (Int32.ofNat b) (.val (.int (Int32.ofNat d))) (Int32.ofNat qn) (.val (.ref o)) .unset (.val (.int (0 : Int32))) .unset X0_ hx hZ hw hby hml hown e0_ ((own_ltn (i := 1) (n := nn) (by decide) (by omega)).mpr hz) (fun z => c1 ⟨hz, own_inj (by omega) (by omega) z⟩)
          · exact own_n1a (.val (.int p1)) (.val (.int p2)) (.val (.int p3)) (.val (.int p4)) (.val (.int p5)) (.val (.int p6)) (Int32.ofNat nn) (.val (.int (Int32.ofNat a))) (.val (.int (Int32.ofNat b))) (.val (.int (Int32.ofNat d))) (.val (.int (Int32.ofNat qn))) (.val (.ref o)) .unset (.val (.int (0 : Int32))) .unset X0_ hx hZ hw hby hml hown e0_ (mt (own_ltn (i := 1) (n := nn) (by decide) (by omega)).mp hz)
        by_cases c2 : 2 < nn ∧ d = qn
        · obtain ⟨Ty, Xy, ey, sty⟩ := own_y2 (.val (.int p1)) (.val (.int p2)) (.val (.int p3)) p4 (.val (.int p5)) (.val (.int p6)) (Int32.ofNat nn) (.val (.int (Int32.ofNat a))) (.val (.int (Int32.ofNat b))) (Int32.ofNat d) (Int32.ofNat qn) (.val (.ref o)) .unset (.val (.int (0 : Int32))) .unset X1_ hx hZ hw hby hml hown e1_ One.u (One.val rfl) ((own_ltn (i := 2) (n := nn) (by decide) (by omega)).mpr c2.1) (congrArg Int32.ofNat c2.2)
          exact ⟨Ty, 1, p4, Xy, ey, Or.inl ⟨rfl, 2, c2.1, c2.2, fun i' hi' => by
                rcases (show i' = 0 ∨ i' = 1 by omega) with rfl | rfl
                · exact fun z => c0 ⟨by omega, z⟩
                · exact fun z => c1 ⟨by omega, z⟩
              , rfl⟩, fun t kt => st0_ t (st1_ t (sty t kt))⟩
        · obtain ⟨Tn, Xn, en, stn⟩ : ∃ T' : State, Stand p l e room_1 s m _ below meth c T' l5 17 281 ∧ T'.heap = h5 ∧ ∀ target, Steps p.tables e below (T'.setTop (mkF m 172 #[.val (.int p1), .val (.int p2), .val (.int p3), .val (.int p4), .val (.int p5), .val (.int p6), .val (.int (Int32.ofNat nn)), .val (.int (Int32.ofNat a)), .val (.int (Int32.ofNat b)), .val (.int (Int32.ofNat d)), .val (.int (Int32.ofNat qn)), .val (.ref o), .val (.int (0 : Int32)), .val (.int (0 : Int32)), .unset] [])) target → Steps p.tables e below (T1_.setTop (mkF m 147 #[.val (.int p1), .val (.int p2), .val (.int p3), .val (.int p4), .val (.int p5), .val (.int p6), .val (.int (Int32.ofNat nn)), .val (.int (Int32.ofNat a)), .val (.int (Int32.ofNat b)), .val (.int (Int32.ofNat d)), .val (.int (Int32.ofNat qn)), .val (.ref o), .unset, .val (.int (0 : Int32)), .unset] [])) target := by
            by_cases hz : 2 < nn
            · exact own_n2b (.val (.int p1)) (.val (.int p2)) (.val (.int p3)) (.val (.int p4)) (.val (.int p5)) (.val (.int p6)) (Int32.ofNat nn) (.val (.int (Int32.ofNat a))) (.val (.int (Int32.ofNat b))) (Int32.ofNat d) (Int32.ofNat qn) (.val (.ref o)) .unset (.val (.int (0 : Int32))) .unset X1_ hx hZ hw hby hml hown e1_ One.u ((own_ltn (i := 2) (n := nn) (by decide) (by omega)).mpr hz) (fun z => c2 ⟨hz, own_inj (by omega) (by omega) z⟩)
            · exact own_n2a (.val (.int p1)) (.val (.int p2)) (.val (.int p3)) (.val (.int p4)) (.val (.int p5)) (.val (.int p6)) (Int32.ofNat nn) (.val (.int (Int32.ofNat a))) (.val (.int (Int32.ofNat b))) (.val (.int (Int32.ofNat d))) (.val (.int (Int32.ofNat qn))) (.val (.ref o)) .unset (.val (.int (0 : Int32))) .unset X1_ hx hZ hw hby hml hown e1_ One.u (mt (own_ltn (i := 2) (n := nn) (by decide) (by omega)).mp hz)
          refine ⟨Tn, 0, 0, Xn, en, Or.inr ⟨rfl, fun i hi => ?_⟩, fun t kt => st0_ t (st1_ t (stn t kt))⟩
          rcases (show i = 0 ∨ i = 1 ∨ i = 2 by omega) with rfl | rfl | rfl
          · exact fun z => c0 ⟨by omega, z⟩
          · exact fun z => c1 ⟨by omega, z⟩
          · exact fun z => c2 ⟨by omega, z⟩
  have N6 := N5
  have Z6 := Z5
  obtain ⟨T7, h7, l7, X7, e7, N7, Z7, q7, st7⟩ := tn0_172_181 (.val (.int p1)) (.val (.int p2)) (.val (.int p3)) (.val (.int p4)) (.val (.int p5)) (.val (.int p6)) (.val (.int (Int32.ofNat nn))) (.val (.int (Int32.ofNat a))) (.val (.int (Int32.ofNat b))) (.val (.int (Int32.ofNat d))) o (.val (.int f12)) (.val (.int f13)) .unset _ _ _ _ _ _ _ _ _ _ _ _ _ qn X6 hx hZ hw hby hml hown e6 N6 Z6 WW.1 One.u WW hqn
  subst q7
  rcases hf with ⟨rfl, i, hi, k1, k2, rfl⟩ | ⟨rfl, hno⟩
  · obtain ⟨ee, ev⟩ := I5.hit hi k1 k2
    rw [ee] at st7
    obtain ⟨T8, h8, l8, X8, e8, N8, Z8, q8, st8⟩ := tn0_181_228 (.val (.int p1)) (.val (.int p2)) (.val (.int p3)) (.val (.int p4)) (.val (.int p5)) (.val (.int p6)) (Int32.ofNat nn) (.val (.int (Int32.ofNat a))) (.val (.int (Int32.ofNat b))) (.val (.int (Int32.ofNat d))) (.val (.int (Int32.ofNat qn))) o 1 (own_vl p2 p3 p4 i) _ _ _ _ _ _ _ _ _ _ _ _ _ i X7 hx hZ hw hby hml hown e7 N7 Z7 WW.1 (by decide) (own_nneg (by omega)) ((own_ltn (by omega) (by omega)).mpr hi) WW (by rw [hM5, if_neg (by omega)]; omega) ev
    obtain ⟨fs, hr, hrun, hended, hW, hsame⟩ := X8.leave (v := some (.int (1 : Int32))) (fun h => by rw [Bd.returns] at h; cases h)
    refine ⟨_, _, pre0 _ ?_, hrun, hended, _, _, rfl, ⟨rfl, N8⟩, ⟨_, rfl⟩, hW, hsame.mono (by decide) (by decide)⟩
    exact st1 _ (st2 _ (st3 _ (st4 _ (st5 _ (st6 _ (st7 _ (st8 _ (retN X8 hx (t := .boolean) Bd.returns (by simp) (hb hby at_228) hr))))))))
  · have ee := I5.miss hno
    rw [ee] at st7
    obtain ⟨T8, X8, e8, st8⟩ := tn0_181_196 (.val (.int p1)) (.val (.int p2)) (.val (.int p3)) (.val (.int p4)) (.val (.int p5)) (.val (.int p6)) (.val (.int (Int32.ofNat nn))) (.val (.int (Int32.ofNat a))) (.val (.int (Int32.ofNat b))) (.val (.int (Int32.ofNat d))) (.val (.int (Int32.ofNat qn))) (.val (.ref o)) 0 (.val (.int f13)) (-1) X7 hx hZ hw hby hml hown e7 rfl (by decide)
    obtain ⟨fs, hr, hrun, hended, hW, hsame⟩ := X8.leave (v := some (.int (1 : Int32))) (fun h => by rw [Bd.returns] at h; cases h)
    refine ⟨_, _, pre0 _ ?_, hrun, hended, _, _, rfl, ⟨rfl, N7⟩, ⟨_, rfl⟩, hW, hsame.mono (by decide) (by decide)⟩
    exact st1 _ (st2 _ (st3 _ (st4 _ (st5 _ (st6 _ (st7 _ (st8 _ (retN X8 hx (t := .boolean) Bd.returns (by simp) (hb hby at_196) hr))))))))
set_option maxRecDepth 65536 in
set_option maxHeartbeats 40000000 in
theorem comes_1 {Post : Tables → Env → Array Value → State → Outcome → State → Prop} (hpost : ∀ tb e args s v u, (limb_1_1.after args s (.returned v) u = true ∧ limb_1_2.after args s (.returned v) u = true ∧ True) → FrameEnd s (.returned v) u (Jvm.fieldLocs frame_1_writes args s ++ Jvm.arrayLocs frame_1_arrays args s ++ Jvm.staticLocs frame_1_statics s) 40 320 → Post tb e args s (.returned v) u) :
    ArmFor flags0 classFile x code maxLocals ret World_1 tables_1 room_1 Calls_1 rest_1 Pre_1 Post := by
  intro l hfl _ _ p e ha hc hk s m args below hf hA hF happ hP
  obtain ⟨hcalls, hrest, hpre⟩ := hP
  obtain ⟨-, -, -, hnamed, -, -, -, hat⟩ := (Spec.applies_iff hf).mp happ
  obtain ⟨hg, hn⟩ := and_e (Cond.before_iff.mp (show (Jvm.Cond.and given_1 narrow_1).before args s = true from hpre))
  obtain ⟨g14, g15⟩ := and_e hg
  obtain ⟨g16, g17⟩ := and_e g15
  obtain ⟨g18, g19⟩ := and_e g17
  obtain ⟨g20, g21⟩ := and_e g19
  obtain ⟨g22, g23⟩ := and_e g21
  obtain ⟨g24, g25⟩ := and_e g23
  obtain ⟨w0, w1, w2, w3, w4, w5, rfl⟩ : ∃ w0 w1 w2 w3 w4 w5 : Value, args = #[w0, w1, w2, w3, w4, w5] := by
    have hs : args.size = 6 := by simpa [Cond.value, given_1] using g14
    obtain ⟨L⟩ := args
    match L, hs with
    | [w0, w1, w2, w3, w4, w5], _ => exact ⟨w0, w1, w2, w3, w4, w5, rfl⟩
  have hw := fun d (hd : d ∈ tables_1) => atoms_spec (ws := Jvm.Cond.code x code maxLocals ret :: tables_1) hat d (List.mem_cons_of_mem _ hd)
  have hfit : Fit s := fun {y c} hc i hi => by
    obtain ⟨ha, rfl⟩ := Array.getElem?_eq_some_iff.mp hc
    have q := List.all_eq_true.mp ((Array.all_eq_true_iff_forall_mem.mp hF) _ (Array.getElem_mem ha)) i (List.mem_range.mpr hi)
    simpa [Array.getElem?_eq_getElem hi] using q
  obtain ⟨i0, ei0⟩ := is_v g16
  obtain rfl : w0 = (.int i0) := Option.some.inj ei0
  obtain ⟨i1, ei1⟩ := is_v g18
  obtain rfl : w1 = (.int i1) := Option.some.inj ei1
  obtain ⟨i2, ei2⟩ := is_v g20
  obtain rfl : w2 = (.int i2) := Option.some.inj ei2
  obtain ⟨i3, ei3⟩ := is_v g22
  obtain rfl : w3 = (.int i3) := Option.some.inj ei3
  obtain ⟨i4, ei4⟩ := is_v g24
  obtain rfl : w4 = (.int i4) := Option.some.inj ei4
  obtain ⟨i5, ei5⟩ := is_v g25
  obtain rfl : w5 = (.int i5) := Option.some.inj ei5
  have all : MetFree l x (head1 (Jvm.Cond.code x code maxLocals ret :: tables_1) room_1) (fun a U => a = #[(.int i0), (.int i1), (.int i2), (.int i3), (.int i4), (.int i5)] ∧ s.Warmed39 U.vm ∧ U.heap = s.heap) (fun _ _ _ _ _ => True) (fun _ U o U' => ∃ v L, o = .returned v ∧ (v = some (.int 1) ∧ Fr s.heap.size L) ∧ FrameEnd U o U' L room_1.cells room_1.slots) := by
    exact rm0 l s _ hw tables_1 i0 i1 i2 i3 i4 i5 s.heap s.heap.size (Nat.le_refl _)
  obtain ⟨n, o, h1, h2, h3, _, L, rfl, ⟨rfl, N⟩, hq⟩ := all p e ha hc hk s m _ below hf ((Spec.applies_iff_loose hf).mp happ).1 ⟨rfl, State.Warmed39.refl s, rfl⟩ trivial
  refine ⟨n, _, h1, h2, h3, hpost _ _ _ _ _ _ ⟨Cond.after_iff.mpr rfl, Cond.after_iff.mpr (eq_i res_at (Term.int_eval (1)) rfl), trivial⟩ ⟨hq.1, hq.2.1, (hq.2.2.sift fun y hy => Or.inr (N y hy)).mono (by decide) (by decide)⟩⟩
theorem main_1_1 : Claimed_1_1 := comes_1 fun _ _ _ _ _ _ h hF => ⟨h.1, hF⟩
theorem main_1_2 : Claimed_1_2 := comes_1 fun _ _ _ _ _ _ h hF => ⟨h.2.1, hF⟩
end Jvm.Pilot.@@N@@
namespace Jvm.Pilot.@@N@@
open Jvm Jvm.ClassFile Sem Op Lib Jvm.Free Jvm.Stand Jvm.Pilot.@@N@@.Jvm.D
/-! MADE BY PROGRAM (witnessworld.py) out of the Statement's table words and the real class files: 12 classes; the members and pool entries that the words name. The judged class is class 1, her method 1. -/
namespace start1
open Jvm.ClassFile
def u (s : String) : CpInfo := .utf8 (stringToUtf16 s)
/-- a pool by its gaps: so many unusable entries, then the entry; so many at the end -/
def gap : Nat → List CpInfo → List CpInfo
  | 0, r => r
  | n + 1, r => .unusable :: gap n r
def poolList (es : List (Nat × CpInfo)) (last : Nat) : List CpInfo := es.foldr (fun e r => gap e.1 (e.2 :: r)) (gap last [])
def pool (es : List (Nat × CpInfo)) (last : Nat) : Array CpInfo := ⟨poolList es last⟩
def fileOf (pool : Array CpInfo) (this : Nat) (attrs : Array Attribute := #[]) (ms : Array MethodInfo := #[]) (fl : Nat := 33) (sup : Nat := 0) (ifs : Array Nat := #[]) (fds : Array FieldInfo := #[]) : ClassFile where
  minorVersion := 0
  majorVersion := 65
  constantPool := pool
  accessFlags := fl
  thisClass := this
  superClass := sup
  interfaces := ifs
  fields := fds
  methods := ms
  attributes := attrs
def plain (name : String) (sup : Option ClassId) : Class where
  name := name
  kind := .ordinary
  loader := none
  accessFlags := 33
  super := sup
  interfaces := #[]
  cf := none
  fields := #[]
  methods := #[]
  instanceTypes := #[]
  staticTypes := #[]
  resolved := #[]
  callSites := []
  init := .initialized
  statics := none
  mirror := none

def pool0 : Array CpInfo := pool [(5, u "<init>"), (0, u "()V"), (1, .class_ 10), (1, u "java/lang/Object")] 113

def k0c0 : Code := { maxStack := 0, maxLocals := 1, code := object_method_1_code, exceptionTable := #[], attributes := #[] }
def k0m0 : Method := { name := "<init>", desc := "()V", sig := { parameters := [], returnType := none }, accessFlags := 1, code := some k0c0 }
/-- java/lang/Object -/
def k0 : Class := { plain "java/lang/Object" none with
  accessFlags := 33
  interfaces := #[]
  cf := some (fileOf pool0 8 #[] #[{ accessFlags := 1, nameIndex := 5, descriptorIndex := 6, attributes := #[] }] 33 0 #[] #[])
  fields := #[]
  methods := #[k0m0]
  instanceTypes := #[]
  staticTypes := #[]
  resolved := Array.replicate 124 none
  statics := none }

def pool1 : Array CpInfo := pool [(2, .class_ 4), (0, .nameAndType 5 6), (0, u "java/lang/Object"), (0, u "<init>"), (0, u "()V"), (0, .integer 2147483647), (0, .class_ 9), (0, u "com/example/redress/redress/definition/Waiters"), (0, .methodref 8 3), (0, .methodref 8 12), (0, .nameAndType 13 14), (0, u "add"), (0, u "(II)V"), (0, .methodref 8 16), (0, .nameAndType 17 18), (0, u "first"), (0, u "(I)I"), (0, .methodref 8 20), (0, .nameAndType 21 18), (0, u "waiter"), (0, .class_ 23), (0, u "com/example/redress/redress/definition/WaitersFirstPinLaw"), (2, u "law"), (0, u "(IIIIII)Z")] 3

def k1m0 : Method := { name := "<init>", desc := "()V", sig := { parameters := [], returnType := none }, accessFlags := 1, code := none }
def k1c1 : Code := { maxStack := 3, maxLocals := 15, code := code, exceptionTable := #[], attributes := #[] }
def k1m1 : Method := { name := "law", desc := "(IIIIII)Z", sig := { parameters := [.int, .int, .int, .int, .int, .int], returnType := some .boolean }, accessFlags := 9, code := some k1c1 }
/-- com/example/redress/redress/definition/WaitersFirstPinLaw -/
def k1 : Class := { plain "com/example/redress/redress/definition/WaitersFirstPinLaw" (some 0) with
  accessFlags := 49
  interfaces := #[]
  cf := some (fileOf pool1 22 #[] #[{ accessFlags := 1, nameIndex := 5, descriptorIndex := 6, attributes := #[] }, { accessFlags := 9, nameIndex := 26, descriptorIndex := 27, attributes := #[] }] 49 2 #[] #[])
  fields := #[]
  methods := #[k1m0, k1m1]
  instanceTypes := #[]
  staticTypes := #[]
  resolved := Array.replicate 31 none
  statics := none }

def pool2 : Array CpInfo := pool [(1, .methodref 2 3), (0, .class_ 4), (0, .nameAndType 5 6), (0, u "java/lang/Object"), (0, u "<init>"), (0, u "()V"), (0, .fieldref 8 9), (0, .class_ 10), (0, .nameAndType 11 12), (0, u "com/example/redress/redress/definition/Waiters"), (0, u "firsts"), (0, u "[I"), (0, .fieldref 8 14), (0, .nameAndType 15 12), (0, u "lasts"), (0, .fieldref 8 17), (0, .nameAndType 18 12), (0, u "waiters"), (0, .fieldref 8 20), (0, .nameAndType 21 12), (0, u "nexts"), (0, .methodref 23 24), (0, .class_ 25), (0, .nameAndType 26 27), (0, u "java/lang/Math"), (0, u "max"), (0, u "(II)I"), (0, .methodref 29 30), (0, .class_ 31), (0, .nameAndType 32 33), (0, u "java/util/Arrays"), (0, u "copyOf"), (0, u "([II)[I"), (0, .methodref 29 35), (0, .nameAndType 36 37), (0, u "fill"), (0, u "([IIII)V"), (0, .fieldref 8 39), (0, .nameAndType 40 41), (0, u "entries"), (0, u "I"), (0, u "NONE"), (4, u "add"), (0, u "(II)V"), (1, u "first"), (0, u "(I)I"), (1, u "waiter")] 2

def k2c0 : Code := { maxStack := 2, maxLocals := 1, code := prog_60_method_1_code, exceptionTable := #[], attributes := #[] }
def k2m0 : Method := { name := "<init>", desc := "()V", sig := { parameters := [], returnType := none }, accessFlags := 0, code := some k2c0 }
def k2c1 : Code := { maxStack := 5, maxLocals := 4, code := prog_60_method_2_code, exceptionTable := #[], attributes := #[] }
def k2m1 : Method := { name := "add", desc := "(II)V", sig := { parameters := [.int, .int], returnType := none }, accessFlags := 0, code := some k2c1 }
def k2c2 : Code := { maxStack := 2, maxLocals := 2, code := prog_60_method_3_code, exceptionTable := #[], attributes := #[] }
def k2m2 : Method := { name := "first", desc := "(I)I", sig := { parameters := [.int], returnType := some .int }, accessFlags := 0, code := some k2c2 }
def k2c3 : Code := { maxStack := 2, maxLocals := 2, code := prog_60_method_5_code, exceptionTable := #[], attributes := #[] }
def k2m3 : Method := { name := "waiter", desc := "(I)I", sig := { parameters := [.int], returnType := some .int }, accessFlags := 0, code := some k2c3 }
/-- com/example/redress/redress/definition/Waiters -/
def k2 : Class := { plain "com/example/redress/redress/definition/Waiters" (some 0) with
  accessFlags := 48
  interfaces := #[]
  cf := some (fileOf pool2 8 #[] #[{ accessFlags := 0, nameIndex := 5, descriptorIndex := 6, attributes := #[] }, { accessFlags := 0, nameIndex := 47, descriptorIndex := 48, attributes := #[] }, { accessFlags := 0, nameIndex := 50, descriptorIndex := 51, attributes := #[] }, { accessFlags := 0, nameIndex := 53, descriptorIndex := 51, attributes := #[] }] 48 2 #[] #[{ accessFlags := 26, nameIndex := 42, descriptorIndex := 41, attributes := #[] }, { accessFlags := 2, nameIndex := 11, descriptorIndex := 12, attributes := #[] }, { accessFlags := 2, nameIndex := 15, descriptorIndex := 12, attributes := #[] }, { accessFlags := 2, nameIndex := 18, descriptorIndex := 12, attributes := #[] }, { accessFlags := 2, nameIndex := 21, descriptorIndex := 12, attributes := #[] }, { accessFlags := 2, nameIndex := 40, descriptorIndex := 41, attributes := #[] }])
  fields := #[{ name := "NONE", type := .int, accessFlags := 26, slot := 0, constantValue := 0 }, { name := "firsts", type := (.array .int), accessFlags := 2, slot := 0, constantValue := 0 }, { name := "lasts", type := (.array .int), accessFlags := 2, slot := 1, constantValue := 0 }, { name := "waiters", type := (.array .int), accessFlags := 2, slot := 2, constantValue := 0 }, { name := "nexts", type := (.array .int), accessFlags := 2, slot := 3, constantValue := 0 }, { name := "entries", type := .int, accessFlags := 2, slot := 4, constantValue := 0 }]
  methods := #[k2m0, k2m1, k2m2, k2m3]
  instanceTypes := #[(.array .int), (.array .int), (.array .int), (.array .int), .int]
  staticTypes := #[.int]
  resolved := Array.replicate 56 none
  statics := none }

def pool3 : Array CpInfo := pool [(1, .class_ 2), (0, u "java/lang/Math"), (1, .class_ 6), (1, u "java/lang/Object"), (0, u "<init>"), (0, u "()V"), (89, .class_ 100), (1, u "java/lang/Math$RandomNumberGeneratorHolder"), (71, u "negativeZeroFloatBits"), (0, u "J"), (2, u "negativeZeroDoubleBits"), (21, u "max"), (2, u "min"), (43, u "$assertionsDisabled"), (0, u "Z"), (88, u "(II)I"), (2, u "twoToTheDoubleScaleDown"), (0, u "D"), (4, u "twoToTheDoubleScaleUp"), (9, u "E"), (3, u "PI"), (2, u "TAU"), (2, u "DEGREES_TO_RADIANS"), (0, u "RADIANS_TO_DEGREES")] 94

def k3m0 : Method := { name := "<init>", desc := "()V", sig := { parameters := [], returnType := none }, accessFlags := 2, code := none }
def k3c1 : Code := { maxStack := 2, maxLocals := 2, code := jdk_29_method_65_code, exceptionTable := #[], attributes := #[] }
def k3m1 : Method := { name := "max", desc := "(II)I", sig := { parameters := [.int, .int], returnType := some .int }, accessFlags := 9, code := some k3c1 }
def k3c2 : Code := { maxStack := 2, maxLocals := 2, code := jdk_29_method_69_code, exceptionTable := #[], attributes := #[] }
def k3m2 : Method := { name := "min", desc := "(II)I", sig := { parameters := [.int, .int], returnType := some .int }, accessFlags := 9, code := some k3c2 }
/-- java/lang/Math -/
def k3 : Class := { plain "java/lang/Math" (some 0) with
  accessFlags := 49
  interfaces := #[]
  cf := some (fileOf pool3 1 #[.nestMembers #[98]] #[{ accessFlags := 2, nameIndex := 7, descriptorIndex := 8, attributes := #[] }, { accessFlags := 9, nameIndex := 198, descriptorIndex := 335, attributes := #[] }, { accessFlags := 9, nameIndex := 201, descriptorIndex := 335, attributes := #[] }] 49 4 #[] #[{ accessFlags := 25, nameIndex := 354, descriptorIndex := 339, attributes := #[] }, { accessFlags := 25, nameIndex := 358, descriptorIndex := 339, attributes := #[] }, { accessFlags := 25, nameIndex := 361, descriptorIndex := 339, attributes := #[] }, { accessFlags := 26, nameIndex := 364, descriptorIndex := 339, attributes := #[] }, { accessFlags := 26, nameIndex := 365, descriptorIndex := 339, attributes := #[] }, { accessFlags := 26, nameIndex := 172, descriptorIndex := 173, attributes := #[] }, { accessFlags := 26, nameIndex := 176, descriptorIndex := 173, attributes := #[] }, { accessFlags := 8, nameIndex := 344, descriptorIndex := 339, attributes := #[] }, { accessFlags := 8, nameIndex := 338, descriptorIndex := 339, attributes := #[] }, { accessFlags := 4120, nameIndex := 245, descriptorIndex := 246, attributes := #[] }])
  fields := #[{ name := "E", type := .double, accessFlags := 25, slot := 0, constantValue := 0 }, { name := "PI", type := .double, accessFlags := 25, slot := 1, constantValue := 0 }, { name := "TAU", type := .double, accessFlags := 25, slot := 2, constantValue := 0 }, { name := "DEGREES_TO_RADIANS", type := .double, accessFlags := 26, slot := 3, constantValue := 0 }, { name := "RADIANS_TO_DEGREES", type := .double, accessFlags := 26, slot := 4, constantValue := 0 }, { name := "negativeZeroFloatBits", type := .long, accessFlags := 26, slot := 5, constantValue := 0 }, { name := "negativeZeroDoubleBits", type := .long, accessFlags := 26, slot := 6, constantValue := 0 }, { name := "twoToTheDoubleScaleUp", type := .double, accessFlags := 8, slot := 7, constantValue := 0 }, { name := "twoToTheDoubleScaleDown", type := .double, accessFlags := 8, slot := 8, constantValue := 0 }, { name := "$assertionsDisabled", type := .boolean, accessFlags := 4120, slot := 9, constantValue := 0 }]
  methods := #[k3m0, k3m1, k3m2]
  instanceTypes := #[]
  staticTypes := #[.double, .double, .double, .double, .double, .long, .long, .double, .double, .boolean]
  resolved := Array.replicate 460 none
  statics := none }

def pool4 : Array CpInfo := pool [(2, .class_ 4), (1, u "java/lang/Object"), (0, u "<init>"), (0, u "()V"), (5, u "([IIII)V"), (0, .methodref 14 15), (0, .class_ 16), (0, .nameAndType 17 18), (0, u "java/util/Arrays"), (0, u "rangeCheck"), (0, u "(III)V"), (55, .class_ 76), (1, u "java/util/Arrays$NaturalOrder"), (36, .class_ 115), (1, u "java/util/Arrays$LegacyMergeSort"), (1, u "Z"), (32, .methodref 151 152), (0, .class_ 153), (0, .nameAndType 154 155), (0, u "java/lang/System"), (0, u "arraycopy"), (0, u "(Ljava/lang/Object;ILjava/lang/Object;II)V"), (146, u "copyOf"), (1, .methodref 305 306), (0, .class_ 307), (0, .nameAndType 308 309), (0, u "java/lang/Math"), (0, u "min"), (0, u "(II)I"), (65, .class_ 376), (0, u "java/util/Arrays$ArrayList"), (68, u "$assertionsDisabled"), (269, u "MIN_ARRAY_SORT_GRAN"), (0, u "I"), (2, u "INSERTIONSORT_THRESHOLD"), (120, u "fill"), (30, u "([II)[I"), (103, .class_ 976), (0, u "java/util/Arrays$ArrayItr")] 52

def k4m0 : Method := { name := "<init>", desc := "()V", sig := { parameters := [], returnType := none }, accessFlags := 2, code := none }
def k4c1 : Code := { maxStack := 4, maxLocals := 3, code := jdk_65_method_30_code, exceptionTable := #[], attributes := #[] }
def k4m1 : Method := { name := "rangeCheck", desc := "(III)V", sig := { parameters := [.int, .int, .int], returnType := none }, accessFlags := 8, code := some k4c1 }
def k4c2 : Code := { maxStack := 3, maxLocals := 5, code := jdk_65_method_104_code, exceptionTable := #[], attributes := #[] }
def k4m2 : Method := { name := "fill", desc := "([IIII)V", sig := { parameters := [(.array .int), .int, .int, .int], returnType := none }, accessFlags := 9, code := some k4c2 }
def k4c3 : Code := { maxStack := 6, maxLocals := 3, code := jdk_65_method_123_code, exceptionTable := #[], attributes := #[] }
def k4m3 : Method := { name := "copyOf", desc := "([II)[I", sig := { parameters := [(.array .int), .int], returnType := some (.array .int) }, accessFlags := 9, code := some k4c3 }
/-- java/util/Arrays -/
def k4 : Class := { plain "java/util/Arrays" (some 0) with
  accessFlags := 49
  interfaces := #[]
  cf := some (fileOf pool4 14 #[.nestMembers #[975, 375, 113, 74]] #[{ accessFlags := 2, nameIndex := 5, descriptorIndex := 6, attributes := #[] }, { accessFlags := 8, nameIndex := 17, descriptorIndex := 18, attributes := #[] }, { accessFlags := 9, nameIndex := 840, descriptorIndex := 12, attributes := #[] }, { accessFlags := 9, nameIndex := 302, descriptorIndex := 871, attributes := #[] }] 49 2 #[] #[{ accessFlags := 26, nameIndex := 715, descriptorIndex := 716, attributes := #[] }, { accessFlags := 26, nameIndex := 719, descriptorIndex := 716, attributes := #[] }, { accessFlags := 4120, nameIndex := 445, descriptorIndex := 117, attributes := #[] }])
  fields := #[{ name := "MIN_ARRAY_SORT_GRAN", type := .int, accessFlags := 26, slot := 0, constantValue := 0 }, { name := "INSERTIONSORT_THRESHOLD", type := .int, accessFlags := 26, slot := 1, constantValue := 0 }, { name := "$assertionsDisabled", type := .boolean, accessFlags := 4120, slot := 2, constantValue := 0 }]
  methods := #[k4m0, k4m1, k4m2, k4m3]
  instanceTypes := #[]
  staticTypes := #[.int, .int, .boolean]
  resolved := Array.replicate 1029 none
  statics := none }

def pool5 : Array CpInfo := pool [(2, .class_ 4), (1, u "java/lang/Object"), (0, u "<init>"), (0, u "()V"), (1, .class_ 10), (1, u "java/lang/System"), (0, u "allowSecurityManager"), (0, u "I"), (16, u "cons"), (0, u "Ljava/io/Console;"), (77, .class_ 110), (1, u "java/lang/System$CallersHolder"), (43, u "initialErrStream"), (0, u "Ljava/io/PrintStream;"), (19, u "security"), (0, u "Ljava/lang/SecurityManager;"), (31, .class_ 209), (0, u "java/lang/System$1"), (7, u "props"), (0, u "Ljava/util/Properties;"), (2, u "lineSeparator"), (0, u "Ljava/lang/String;"), (96, .class_ 321), (1, u "java/lang/System$LoggerFinder"), (5, .class_ 328), (0, u "java/lang/System$Logger"), (67, u "err"), (2, u "out"), (91, u "notSupportedJnuEncoding"), (15, u "in"), (17, u "initialIn"), (0, u "Ljava/io/InputStream;"), (35, u "bootLayer"), (0, u "Ljava/lang/ModuleLayer;"), (99, .class_ 664), (0, u "java/lang/System$2"), (9, u "NEVER"), (2, u "MAYBE"), (49, u "arraycopy"), (0, u "(Ljava/lang/Object;ILjava/lang/Object;II)V"), (72, .class_ 802), (0, u "java/lang/System$Logger$Level")] 31

def k5m0 : Method := { name := "<init>", desc := "()V", sig := { parameters := [], returnType := none }, accessFlags := 2, code := none }
def k5m1 : Method := { name := "arraycopy", desc := "(Ljava/lang/Object;ILjava/lang/Object;II)V", sig := { parameters := [(.object "java/lang/Object"), .int, (.object "java/lang/Object"), .int, .int], returnType := none }, accessFlags := 265, code := none }
/-- java/lang/System -/
def k5 : Class := { plain "java/lang/System" (some 0) with
  accessFlags := 49
  interfaces := #[]
  cf := some (fileOf pool5 8 #[.nestMembers #[319, 327, 801, 108, 663, 208]] #[{ accessFlags := 2, nameIndex := 5, descriptorIndex := 6, attributes := #[] }, { accessFlags := 265, nameIndex := 727, descriptorIndex := 728, attributes := #[] }] 49 2 #[] #[{ accessFlags := 25, nameIndex := 507, descriptorIndex := 526, attributes := #[] }, { accessFlags := 25, nameIndex := 399, descriptorIndex := 155, attributes := #[] }, { accessFlags := 25, nameIndex := 396, descriptorIndex := 155, attributes := #[] }, { accessFlags := 10, nameIndex := 525, descriptorIndex := 526, attributes := #[] }, { accessFlags := 26, nameIndex := 674, descriptorIndex := 12, attributes := #[] }, { accessFlags := 26, nameIndex := 677, descriptorIndex := 12, attributes := #[] }, { accessFlags := 10, nameIndex := 11, descriptorIndex := 12, attributes := #[] }, { accessFlags := 74, nameIndex := 175, descriptorIndex := 176, attributes := #[] }, { accessFlags := 10, nameIndex := 491, descriptorIndex := 222, attributes := #[] }, { accessFlags := 74, nameIndex := 29, descriptorIndex := 30, attributes := #[] }, { accessFlags := 74, nameIndex := 154, descriptorIndex := 155, attributes := #[] }, { accessFlags := 10, nameIndex := 217, descriptorIndex := 218, attributes := #[] }, { accessFlags := 10, nameIndex := 221, descriptorIndex := 222, attributes := #[] }, { accessFlags := 8, nameIndex := 562, descriptorIndex := 563, attributes := #[] }])
  fields := #[{ name := "in", type := (.object "java/io/InputStream"), accessFlags := 25, slot := 0, constantValue := 0 }, { name := "out", type := (.object "java/io/PrintStream"), accessFlags := 25, slot := 1, constantValue := 0 }, { name := "err", type := (.object "java/io/PrintStream"), accessFlags := 25, slot := 2, constantValue := 0 }, { name := "initialIn", type := (.object "java/io/InputStream"), accessFlags := 10, slot := 3, constantValue := 0 }, { name := "NEVER", type := .int, accessFlags := 26, slot := 4, constantValue := 0 }, { name := "MAYBE", type := .int, accessFlags := 26, slot := 5, constantValue := 0 }, { name := "allowSecurityManager", type := .int, accessFlags := 10, slot := 6, constantValue := 0 }, { name := "security", type := (.object "java/lang/SecurityManager"), accessFlags := 74, slot := 7, constantValue := 0 }, { name := "notSupportedJnuEncoding", type := (.object "java/lang/String"), accessFlags := 10, slot := 8, constantValue := 0 }, { name := "cons", type := (.object "java/io/Console"), accessFlags := 74, slot := 9, constantValue := 0 }, { name := "initialErrStream", type := (.object "java/io/PrintStream"), accessFlags := 74, slot := 10, constantValue := 0 }, { name := "props", type := (.object "java/util/Properties"), accessFlags := 10, slot := 11, constantValue := 0 }, { name := "lineSeparator", type := (.object "java/lang/String"), accessFlags := 10, slot := 12, constantValue := 0 }, { name := "bootLayer", type := (.object "java/lang/ModuleLayer"), accessFlags := 8, slot := 13, constantValue := 0 }]
  methods := #[k5m0, k5m1]
  instanceTypes := #[]
  staticTypes := #[(.object "java/io/InputStream"), (.object "java/io/PrintStream"), (.object "java/io/PrintStream"), (.object "java/io/InputStream"), .int, .int, .int, (.object "java/lang/SecurityManager"), (.object "java/lang/String"), (.object "java/io/Console"), (.object "java/io/PrintStream"), (.object "java/util/Properties"), (.object "java/lang/String"), (.object "java/lang/ModuleLayer")]
  resolved := Array.replicate 834 none
  statics := none }

def pool6 : Array CpInfo := pool [(1, u "java/lang/Cloneable"), (0, .class_ 1), (0, u "java/lang/Object"), (0, .class_ 3)] 3

/-- java/lang/Cloneable -/
def k6 : Class := { plain "java/lang/Cloneable" (some 0) with
  accessFlags := 1537
  interfaces := #[]
  cf := some (fileOf pool6 2 #[] #[] 1537 4 #[] #[])
  fields := #[]
  methods := #[]
  instanceTypes := #[]
  staticTypes := #[]
  resolved := Array.replicate 8 none
  statics := none }

def pool7 : Array CpInfo := pool [(1, u "java/io/Serializable"), (0, .class_ 1), (0, u "java/lang/Object"), (0, .class_ 3)] 3

/-- java/io/Serializable -/
def k7 : Class := { plain "java/io/Serializable" (some 0) with
  accessFlags := 1537
  interfaces := #[]
  cf := some (fileOf pool7 2 #[] #[] 1537 4 #[] #[])
  fields := #[]
  methods := #[]
  instanceTypes := #[]
  staticTypes := #[]
  resolved := Array.replicate 8 none
  statics := none }

/-- the primitive byte -/
def k8 : Class := { plain "byte" none with kind := .primitive 'B', accessFlags := 0x411 }
/-- [B -/
def k9 : Class := { plain "[B" (some 0) with kind := .array 8 .byte, interfaces := #[6, 7], accessFlags := 1041 }

/-- the primitive int -/
def k10 : Class := { plain "int" none with kind := .primitive 'I', accessFlags := 0x411 }
/-- [I -/
def k11 : Class := { plain "[I" (some 0) with kind := .array 10 .int, interfaces := #[6, 7], accessFlags := 1041 }

def heap : Heap := #[]
def classes : Array Class := #[k0, k1, k2, k3, k4, k5, k6, k7, k8, k9, k10, k11]
def interned : List (Array UInt16 × Addr) := []
def slotsUsed : Nat := 0
def theMethod : MethodId := ⟨1, 1⟩
def args0 : Array Value := #[.int 291, .int 5, .int 6, .int 7, .int 2, .int 3]
def aboutOver (below : List Frame) : State where
  vm := { classes := classes, interned := interned.toArray }
  heap := heap
  slotsUsed := slotsUsed
  threads := #[{ frames := .invoking theMethod args0 :: below }]
def below0 : List Frame := [.native { method := ⟨0, 0⟩, args := #[] }]
def about1 : State := aboutOver below0
def p0 : Program := .bare "" "" ""
def e0 : Env := launch0.env 0 0 0
theorem w_frames : about1.frames = Frame.invoking theMethod args0 :: below0 := rfl
set_option maxRecDepth 65536 in
theorem w_args : argsFit about1.vm theMethod args0 = true := by decide +kernel
set_option maxRecDepth 65536 in
theorem w_heap : heapFits about1 = true := by decide +kernel
set_option maxRecDepth 65536 in
theorem w_runnable : about1.curStatus? = some .runnable := by decide +kernel
set_option maxRecDepth 65536 in
theorem w_alone : about1.alone = true := by decide +kernel
set_option maxRecDepth 65536 in
theorem w_named : about1.methodNamed? x = some theMethod := by decide +kernel
set_option maxRecDepth 65536 in
theorem w_hears : about1.hears theMethod below0 = true := by decide +kernel
set_option maxRecDepth 65536 in
theorem w_ripe : about1.ripe theMethod args0 below0 = true := by decide +kernel
theorem w_running : about1.status = .running := rfl
set_option maxRecDepth 65536 in
theorem w_room : about1.hasRoom e0.platform room_1 = true :=
  launch0.hasRoom_least _ room_1 (by decide +kernel) (by decide +kernel) (by decide +kernel) (by decide +kernel) (by decide +kernel) (by decide +kernel)
theorem allAtoms_all (ts : List Jvm.Cond) (a : Array Jvm.Value) (st : Jvm.State) : (allAtoms ts).before a st = ts.all (fun c => c.before a st) := by
  induction ts with
  | nil => rfl
  | cons c t ih =>
    show (Jvm.Cond.and c (allAtoms t)).before a st = _
    rw [Jvm.Cond.before_and, ih, List.all_cons]
def words1 : List Jvm.Cond := Jvm.Cond.code x code maxLocals ret :: tables_1
/-- a 'code' word, met by the world's own term for the bytes: nothing is compared byte by byte -/
theorem code_word {y : MethodName} {bytes : ByteArray} {mx : Nat} {rt : Option FieldType} {a : Array Value} {s : State} {m : MethodId} {meth : Method} {c : Code} (h1 : s.methodNamed? y = some m) (h2 : s.vm.method? m = some meth) (h3 : meth.code = some c) (h4 : c.code = bytes)
    (h5 : (c.maxLocals == mx && c.exceptionTable.isEmpty && decide (c.maxStack ≤ mostOperands) && decide (meth.sig.returnType = rt) && !meth.locks && decide (parseMethodDescriptor y.desc = some meth.sig)) = true) : (Jvm.Cond.code y bytes mx rt).before a s = true := by
  simp only [Bool.and_eq_true, beq_iff_eq, Bool.not_eq_true', decide_eq_true_eq] at h5
  obtain ⟨⟨⟨⟨⟨g1, g2⟩, g3⟩, g4⟩, g5⟩, g6⟩ := h5
  simp [Cond.before, Cond.holds, Cond.value, h1, h2, h3, h4, g1, g2, g3, g4, g5, g6]
def isCode : Jvm.Cond → Bool
  | .code _ _ _ _ => true
  | _ => false
theorem all_split {L : List Jvm.Cond} {P : Jvm.Cond → Bool} (h1 : L.all (fun c => isCode c || P c) = true) (h2 : ∀ c ∈ L.filter isCode, P c = true) : L.all P = true := by
  refine List.all_eq_true.mpr fun c hc => ?_
  have h := List.all_eq_true.mp h1 c hc
  rcases Bool.eq_false_or_eq_true (isCode c) with hi | hi
  · exact h2 c (List.mem_filter.mpr ⟨hc, hi⟩)
  · simpa [hi] using h
set_option maxRecDepth 65536 in
theorem w_c0 : (Jvm.Cond.code x code maxLocals ret).before args0 about1 = true := code_word (m := ⟨1, 1⟩) (meth := k1m1) (c := k1c1) (by decide +kernel) rfl rfl rfl (by decide +kernel)
set_option maxRecDepth 65536 in
theorem w_c1 : (Jvm.Cond.code ({ cls := "com/example/redress/redress/definition/Waiters", name := "<init>", desc := "()V" } : Jvm.MethodName) prog_60_method_1_code (1 : Nat) (Option.none : Option Jvm.ClassFile.FieldType)).before args0 about1 = true := code_word (m := ⟨2, 0⟩) (meth := k2m0) (c := k2c0) (by decide +kernel) rfl rfl rfl (by decide +kernel)
set_option maxRecDepth 65536 in
theorem w_c2 : (Jvm.Cond.code ({ cls := "java/lang/Object", name := "<init>", desc := "()V" } : Jvm.MethodName) object_method_1_code (1 : Nat) (Option.none : Option Jvm.ClassFile.FieldType)).before args0 about1 = true := code_word (m := ⟨0, 0⟩) (meth := k0m0) (c := k0c0) (by decide +kernel) rfl rfl rfl (by decide +kernel)
set_option maxRecDepth 65536 in
theorem w_c3 : (Jvm.Cond.code ({ cls := "com/example/redress/redress/definition/Waiters", name := "add", desc := "(II)V" } : Jvm.MethodName) prog_60_method_2_code (4 : Nat) (Option.none : Option Jvm.ClassFile.FieldType)).before args0 about1 = true := code_word (m := ⟨2, 1⟩) (meth := k2m1) (c := k2c1) (by decide +kernel) rfl rfl rfl (by decide +kernel)
set_option maxRecDepth 65536 in
theorem w_c4 : (Jvm.Cond.code ({ cls := "java/lang/Math", name := "max", desc := "(II)I" } : Jvm.MethodName) jdk_29_method_65_code (2 : Nat) (Option.some Jvm.ClassFile.FieldType.int)).before args0 about1 = true := code_word (m := ⟨3, 1⟩) (meth := k3m1) (c := k3c1) (by decide +kernel) rfl rfl rfl (by decide +kernel)
set_option maxRecDepth 65536 in
theorem w_c5 : (Jvm.Cond.code ({ cls := "java/util/Arrays", name := "copyOf", desc := "([II)[I" } : Jvm.MethodName) jdk_65_method_123_code (3 : Nat) (Option.some (Jvm.ClassFile.FieldType.array Jvm.ClassFile.FieldType.int))).before args0 about1 = true := code_word (m := ⟨4, 3⟩) (meth := k4m3) (c := k4c3) (by decide +kernel) rfl rfl rfl (by decide +kernel)
set_option maxRecDepth 65536 in
theorem w_c6 : (Jvm.Cond.code ({ cls := "java/lang/Math", name := "min", desc := "(II)I" } : Jvm.MethodName) jdk_29_method_69_code (2 : Nat) (Option.some Jvm.ClassFile.FieldType.int)).before args0 about1 = true := code_word (m := ⟨3, 2⟩) (meth := k3m2) (c := k3c2) (by decide +kernel) rfl rfl rfl (by decide +kernel)
set_option maxRecDepth 65536 in
theorem w_c7 : (Jvm.Cond.code ({ cls := "java/util/Arrays", name := "fill", desc := "([IIII)V" } : Jvm.MethodName) jdk_65_method_104_code (5 : Nat) (Option.none : Option Jvm.ClassFile.FieldType)).before args0 about1 = true := code_word (m := ⟨4, 2⟩) (meth := k4m2) (c := k4c2) (by decide +kernel) rfl rfl rfl (by decide +kernel)
set_option maxRecDepth 65536 in
theorem w_c8 : (Jvm.Cond.code ({ cls := "java/util/Arrays", name := "rangeCheck", desc := "(III)V" } : Jvm.MethodName) jdk_65_method_30_code (3 : Nat) (Option.none : Option Jvm.ClassFile.FieldType)).before args0 about1 = true := code_word (m := ⟨4, 1⟩) (meth := k4m1) (c := k4c1) (by decide +kernel) rfl rfl rfl (by decide +kernel)
set_option maxRecDepth 65536 in
theorem w_c9 : (Jvm.Cond.code ({ cls := "com/example/redress/redress/definition/Waiters", name := "first", desc := "(I)I" } : Jvm.MethodName) prog_60_method_3_code (2 : Nat) (Option.some Jvm.ClassFile.FieldType.int)).before args0 about1 = true := code_word (m := ⟨2, 2⟩) (meth := k2m2) (c := k2c2) (by decide +kernel) rfl rfl rfl (by decide +kernel)
set_option maxRecDepth 65536 in
theorem w_c10 : (Jvm.Cond.code ({ cls := "com/example/redress/redress/definition/Waiters", name := "waiter", desc := "(I)I" } : Jvm.MethodName) prog_60_method_5_code (2 : Nat) (Option.some Jvm.ClassFile.FieldType.int)).before args0 about1 = true := code_word (m := ⟨2, 3⟩) (meth := k2m3) (c := k2c3) (by decide +kernel) rfl rfl rfl (by decide +kernel)
def codes1 : List Jvm.Cond := [Jvm.Cond.code x code maxLocals ret, Jvm.Cond.code ({ cls := "com/example/redress/redress/definition/Waiters", name := "<init>", desc := "()V" } : Jvm.MethodName) prog_60_method_1_code (1 : Nat) (Option.none : Option Jvm.ClassFile.FieldType), Jvm.Cond.code ({ cls := "java/lang/Object", name := "<init>", desc := "()V" } : Jvm.MethodName) object_method_1_code (1 : Nat) (Option.none : Option Jvm.ClassFile.FieldType), Jvm.Cond.code ({ cls := "com/example/redress/redress/definition/Waiters", name := "add", desc := "(II)V" } : Jvm.MethodName) prog_60_method_2_code (4 : Nat) (Option.none : Option Jvm.ClassFile.FieldType), Jvm.Cond.code ({ cls := "java/lang/Math", name := "max", desc := "(II)I" } : Jvm.MethodName) jdk_29_method_65_code (2 : Nat) (Option.some Jvm.ClassFile.FieldType.int), Jvm.Cond.code ({ cls := "java/util/Arrays", name := "copyOf", desc := "([II)[I" } : Jvm.MethodName) jdk_65_method_123_code (3 : Nat) (Option.some (Jvm.ClassFile.FieldType.array Jvm.ClassFile.FieldType.int)), Jvm.Cond.code ({ cls := "java/lang/Math", name := "min", desc := "(II)I" } : Jvm.MethodName) jdk_29_method_69_code (2 : Nat) (Option.some Jvm.ClassFile.FieldType.int), Jvm.Cond.code ({ cls := "java/util/Arrays", name := "fill", desc := "([IIII)V" } : Jvm.MethodName) jdk_65_method_104_code (5 : Nat) (Option.none : Option Jvm.ClassFile.FieldType), Jvm.Cond.code ({ cls := "java/util/Arrays", name := "rangeCheck", desc := "(III)V" } : Jvm.MethodName) jdk_65_method_30_code (3 : Nat) (Option.none : Option Jvm.ClassFile.FieldType), Jvm.Cond.code ({ cls := "com/example/redress/redress/definition/Waiters", name := "first", desc := "(I)I" } : Jvm.MethodName) prog_60_method_3_code (2 : Nat) (Option.some Jvm.ClassFile.FieldType.int), Jvm.Cond.code ({ cls := "com/example/redress/redress/definition/Waiters", name := "waiter", desc := "(I)I" } : Jvm.MethodName) prog_60_method_5_code (2 : Nat) (Option.some Jvm.ClassFile.FieldType.int)]
set_option maxRecDepth 65536 in
theorem codes_eq : words1.filter isCode = codes1 := rfl
theorem w_codes : ∀ c ∈ words1.filter isCode, c.before args0 about1 = true := by
  rw [codes_eq]
  intro c hc
  simp only [codes1, List.mem_cons, List.not_mem_nil, or_false] at hc
  rcases hc with rfl | rfl | rfl | rfl | rfl | rfl | rfl | rfl | rfl | rfl | rfl
  · exact w_c0
  · exact w_c1
  · exact w_c2
  · exact w_c3
  · exact w_c4
  · exact w_c5
  · exact w_c6
  · exact w_c7
  · exact w_c8
  · exact w_c9
  · exact w_c10
set_option maxRecDepth 65536 in
theorem w_t1 : (words1.take 24).all (fun c => isCode c || c.before args0 about1) = true := by decide +kernel
set_option maxRecDepth 65536 in
theorem w_t2 : ((words1.drop 24).take 24).all (fun c => isCode c || c.before args0 about1) = true := by decide +kernel
set_option maxRecDepth 65536 in
theorem w_t3 : ((words1.drop 24).drop 24).all (fun c => isCode c || c.before args0 about1) = true := by decide +kernel
theorem w_tables : (allAtoms (Jvm.Cond.code x code maxLocals ret :: tables_1)).before args0 about1 = true := by
  rw [allAtoms_all]
  show words1.all (fun c => c.before args0 about1) = true
  refine all_split ?_ w_codes
  rw [← List.take_append_drop 24 words1, List.all_append, w_t1, ← List.take_append_drop 24 (words1.drop 24), List.all_append, w_t2, w_t3]
  rfl
set_option maxRecDepth 65536 in
theorem w_case : (Jvm.Cond.and given_1 narrow_1).before args0 about1 = true := by decide +kernel
theorem w_applies : (headSpec (Jvm.Cond.code x code maxLocals ret :: tables_1) room_1).applies x e0.platform about1 = true :=
  (Spec.applies_iff w_frames).mpr ⟨w_running, w_runnable, w_alone, w_named, w_hears, w_ripe, w_room, w_tables⟩
theorem atStart : AtStart classFile x code maxLocals ret World_1 tables_1 room_1 Calls_1 rest_1 Pre_1 launch0 p0 e0 about1 theMethod args0 below0 :=
  ⟨lists_1, trivial, launch0.admits_env _ _ _, launch0.least_env, fairChoices_fair.cas, fairChoices_fair.clock, w_frames, w_args, w_heap, w_applies, trivial, trivial, w_case⟩
end start1
theorem witness_1 : WitnessClaimed_1 := ⟨start1.p0, start1.e0, start1.about1, start1.theMethod, start1.args0, start1.below0, start1.atStart⟩
end Jvm.Pilot.@@N@@
