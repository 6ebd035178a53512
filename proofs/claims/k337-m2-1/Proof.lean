import JvmDerived
import JvmDerived.Pilot.@@N@@Statement
import JvmDerived.Pilot.@@N@@Code
set_option linter.unusedVariables false
set_option linter.unusedSimpArgs false
namespace Jvm.RoadKit
open Sem ClassFile Op Lib Jvm.Stand Jvm.Free Jvm.LawKit
section New
variable {p : Program} {l : Launch} {e : Env} {R : Room} {s : State} {m : MethodId} {args : Array Value} {below : List Frame} {meth : Method} {c : Code} {T : State} {locs : List Loc} {cells slots : Nat}
theorem retI (X : Stand p l e R s m args below meth c T locs cells slots) (hx : p.tables.exec = Jvm.exec) {pc : Nat} {Ls : Array Slot} {z : Int32} {rest : List Value} (hret : meth.sig.returnType = some .int) (hd : decode c.code pc = .ok (.ireturn, 1)) {fs : List Frame}
    (hl : ∀ (f : JFrame) (acts : List Action), f.method = m → f.locked = none → f.entered = [] → (doReturn e (T.setTop f) acts (some (.int z))).1 = T.setFrames fs) : Steps p.tables e below (T.setTop (mkF m pc Ls (.int z :: rest))) (T.setFrames fs) := by
  have hm' : T.vm.method? m = some meth := X.method'
  have hn : narrow .int (.int z) = .int z := rfl
  show Steps p.tables e below (T.setTop { method := m, pc := pc, locals := Ls, stack := _ :: rest, locked := none }) _
  jvm_step X.here [X.here.top, hx, hd, hm', hret, hn]
  first | (intro acts; rw [hl _ acts rfl rfl rfl]) | rw [hl _ _ rfl rfl rfl]
  exact Steps.refl _
end New
end Jvm.RoadKit
namespace Jvm.Pilot.@@N@@
open Jvm Jvm.ClassFile Sem Op Lib Jvm.Free Jvm.Stand Jvm.LawKit Jvm.RoadKit Bundle Jvm.Pilot.@@N@@.Jvm.D
theorem own_imod (x y : Int32) : x - (x / y) * y = x % y := by
  have hd : x / y = Int32.ofInt (x.toInt.tdiv y.toInt) := Int32.toInt_inj.mp (by rw [Int32.toInt_div, Int32.toInt_ofInt])
  have hm : x % y = Int32.ofInt (x.toInt.tmod y.toInt) := by rw [← Int32.toInt_mod, Int32.ofInt_toInt]
  have e := Int.tmod_add_mul_tdiv x.toInt y.toInt
  have e2 : x.toInt.tmod y.toInt = x.toInt - x.toInt.tdiv y.toInt * y.toInt := by rw [Int.mul_comm (x.toInt.tdiv y.toInt)]; omega
  rw [hm, e2, Int32.ofInt_sub, Int32.ofInt_mul, Int32.ofInt_toInt, Int32.ofInt_toInt, ← hd]
theorem own_irem {tb : Tables} [Ours tb] {e : Env} {below : List Frame} {T target : State} {m : MethodId} {c : Code} {g : JFrame} (h : At T m c below) (hx : tb.exec = Jvm.exec) (hg : g.method = m) {x y : Int32} {rest : List Value} (hd : decode c.code g.pc = .ok (.irem, 1)) (hs : g.stack = .int y :: .int x :: rest) (hy : y ≠ 0) (hr : Steps tb e below (T.setTop { g with pc := g.pc + 1, stack := .int (x % y) :: rest }) target) : Steps tb e below (T.setTop g) target := XS.irem h hx hg hd hs hy (by rw [own_imod]; exact hr)
theorem own_retL {p : Program} {l : Launch} {e : Env} {R : Room} {s : State} {m : MethodId} {args : Array Value} {below : List Frame} {meth : Method} {c : Code} {T : State} {locs : List Loc} {cells slots : Nat} (X : Stand p l e R s m args below meth c T locs cells slots) (hx : p.tables.exec = Jvm.exec) {pc : Nat} {Ls : Array Slot} {z : Int64} {rest : List Value} (hret : meth.sig.returnType = some .long) (hd : decode c.code pc = .ok (.lreturn, 1)) {fs : List Frame} (hl : ∀ (f : JFrame) (acts : List Action), f.method = m → f.locked = none → f.entered = [] → (doReturn e (T.setTop f) acts (some (.long z))).1 = T.setFrames fs) : Steps p.tables e below (T.setTop (mkF m pc Ls (.long z :: rest))) (T.setFrames fs) := by
  have hm' : T.vm.method? m = some meth := X.method'
  show Steps p.tables e below (T.setTop { method := m, pc := pc, locals := Ls, stack := _ :: rest, locked := none }) _
  jvm_step X.here [X.here.top, hx, hd, hm', hret, narrow]
  first | (intro acts; rw [hl _ acts rfl rfl rfl]) | rw [hl _ _ rfl rfl rfl]
  exact Steps.refl _
def own_Qr (h0 : Heap) (n0 : Nat) (r : Value) (v : Option Value) (h : Heap) (L : List Loc) : Prop := v = some r ∧ Fr n0 L ∧ h = h0

theorem own_ti {k : Nat} (h : k < 2147483648) : (Int32.ofNat k).toInt = k := len_toInt (by omega)
theorem own_nc {k : Nat} (h : k < 2147483648) : (Int32.ofNat k).toNatClampNeg = k := by
  simp only [Int32.toNatClampNeg, own_ti h]; omega
theorem own_ltn {i n : Nat} (hi : i < 2147483648) (hn : n < 2147483648) : Int32.ofNat i < Int32.ofNat n ↔ i < n := by
  rw [Int32.lt_iff_toInt_lt, own_ti hi, own_ti hn]; omega
theorem own_nneg {k : Nat} (h : k < 2147483648) : ¬ Int32.ofNat k < 0 := by
  have h0 : (0 : Int32).toInt = 0 := by decide
  rw [Int32.lt_iff_toInt_lt, own_ti h, h0]; omega
theorem own_add1 (k : Nat) : Int32.ofNat k + (1 : Int32) = Int32.ofNat (k + 1) := (Int32.ofNat_add k 1).symm
theorem own_sub1 (k : Nat) : Int32.ofNat (k + 1) - (1 : Int32) = Int32.ofNat k := by
  rw [← own_add1]; exact Int32.add_sub_cancel _ _
theorem own_dec1 (k : Nat) : Int32.ofNat (k + 1) + (-1 : Int32) = Int32.ofNat k := by
  rw [← own_sub1 k, Int32.sub_eq_add_neg]
theorem own_inb {k N : Nat} {cl : Cell} (S : cl.slots.size = N) (h : k < N) (hN : N < 2147483648) : ¬ (Int32.ofNat k < 0 ∨ cl.slots.size ≤ (Int32.ofNat k).toNatClampNeg) := by
  rw [S, own_nc (by omega)]
  rintro (q | q)
  · exact own_nneg (by omega) q
  · omega

def own_AF (Z : State) (h : Heap) (a : Addr) (ty : FieldType) (N : Nat) (f : Nat → Value) : Prop := N < 2147483648 ∧ ∃ cl : Cell, Arr Z h a cl ty ∧ cl.slots.size = N ∧ (∀ j, j < N → cl.slots[j]? = some (f j)) ∧ ∀ j, j < N → fits ty (f j) = true
theorem own_AF.lt {Z : State} {h : Heap} {a : Addr} {ty : FieldType} {N : Nat} {f : Nat → Value} (F : own_AF Z h a ty N f) : a < h.size := by obtain ⟨-, c, A, -⟩ := F; exact A.lt
theorem own_AF.ext {Z : State} {h h' : Heap} {a : Addr} {ty : FieldType} {N : Nat} {f : Nat → Value} (F : own_AF Z h a ty N f) (E : Ext h h') : own_AF Z h' a ty N f := by obtain ⟨q, c, A, r⟩ := F; exact ⟨q, c, A.ext E, r⟩
theorem own_AF.other {Z : State} {h h' : Heap} {a b : Addr} {sl : Nat} {v : Value} {ty : FieldType} {N : Nat} {f : Nat → Value} (F : own_AF Z h b ty N f) (W : Wr h h' a sl v) (q : b ≠ a) : own_AF Z h' b ty N f := by obtain ⟨k, c, A, r⟩ := F; exact ⟨k, c, A.other W q, r⟩
theorem own_AF.keep {Z : State} {h h' : Heap} {a : Addr} {ws : List Addr} {ty : FieldType} {N : Nat} {f : Nat → Value} (F : own_AF Z h a ty N f) (K : Keep h h' ws) (q : a ∉ ws) : own_AF Z h' a ty N f := by obtain ⟨k, c, A, r⟩ := F; exact ⟨k, c, ⟨K.2.1 a c A.1 q, A.2⟩, r⟩
def own_upd {α : Type} (f : Nat → α) (j : Nat) (v : α) : Nat → α := fun k => if k = j then v else f k
theorem own_AF.set {Z : State} {h h' : Heap} {a : Addr} {j : Nat} {v : Value} {ty : FieldType} {N : Nat} {f : Nat → Value} (F : own_AF Z h a ty N f) (W : Wr h h' a j v) (hj : j < N) (hv : fits ty v = true) : own_AF Z h' a ty N (own_upd f j v) := by
  obtain ⟨k, c, A, S, H, G⟩ := F
  refine ⟨k, _, A.same W, by rw [sz_set]; exact S, fun i hi => ?_, fun i hi => ?_⟩
  · show (c.slots.setIfInBounds j v)[i]? = some (if i = j then v else f i)
    by_cases q : i = j
    · subst q
      rw [if_pos rfl, Array.getElem?_setIfInBounds_self_of_lt (by rw [S]; exact hj)]
    · rw [if_neg q, Array.getElem?_setIfInBounds_ne (fun z => q z.symm)]; exact H i hi
  · show fits ty (if i = j then v else f i) = true
    by_cases q : i = j
    · rw [if_pos q]; exact hv
    · rw [if_neg q]; exact G i hi
theorem own_AF.of {Z : State} {h : Heap} {a : Addr} {k : ClassId} {ty : FieldType} {z : Int32} {vs : List Value} {dv : Value} (V : Arv Z h a k ty z vs dv) (N : Nat) (hN : z.toNatClampNeg = N) (f : Nat → Value) (hf : ∀ j, j < N → vs.getD j dv = f j) : own_AF Z h a ty N f := by
  obtain ⟨c, A, -, S, M, H, G⟩ := V
  have hS : c.slots.size = N := S.trans hN
  refine ⟨by rw [← hN]; exact (back32 M).2, c, A, hS, fun j hj => ?_, fun j hj => ?_⟩
  · rw [← hf j hj]; exact H j (by rw [hS]; exact hj)
  · rw [← hf j hj]; exact G j (by rw [hS]; exact hj)
theorem own_AF.arv {Z : State} {h : Heap} {a : Addr} {ty : FieldType} {N : Nat} {f : Nat → Value} (F : own_AF Z h a ty N f) (dv : Value) : ∃ k, Arv Z h a k ty (Int32.ofNat N) ((List.range N).map f) dv := by
  obtain ⟨q, c, A, S, H, G⟩ := F
  have e : ∀ j, j < N → ((List.range N).map f).getD j dv = f j := fun j hj => by simp [List.getD_eq_getElem?_getD, hj]
  refine ⟨c.cls, c, A, rfl, by rw [own_nc q]; exact S, own_nneg q, fun j hj => ?_, fun j hj => ?_⟩
  · rw [S] at hj; rw [e j hj]; exact H j hj
  · rw [S] at hj; rw [e j hj]; exact G j hj
theorem own_AF.congr {Z : State} {h : Heap} {a : Addr} {ty : FieldType} {N : Nat} {f g : Nat → Value} (F : own_AF Z h a ty N f) (e : ∀ j, j < N → f j = g j) : own_AF Z h a ty N g := by
  obtain ⟨q, c, A, S, H, G⟩ := F
  exact ⟨q, c, A, S, fun j hj => by rw [← e j hj]; exact H j hj, fun j hj => by rw [← e j hj]; exact G j hj⟩
theorem d10_0 : decode jdk_29_method_65_code 0 = .ok (.iload_n 0, 1) := by decide +kernel
theorem d10_1 : decode jdk_29_method_65_code 1 = .ok (.iload_n 1, 1) := by decide +kernel
theorem d10_2 : decode jdk_29_method_65_code 2 = .ok (.if_icmp .lt 7, 3) := by decide +kernel
theorem d10_5 : decode jdk_29_method_65_code 5 = .ok (.iload_n 0, 1) := by decide +kernel
theorem d10_6 : decode jdk_29_method_65_code 6 = .ok (.goto 4, 3) := by decide +kernel
theorem d10_10 : decode jdk_29_method_65_code 10 = .ok (.ireturn, 1) := by decide +kernel
theorem ef_10 (m : MethodId) (x0 : Int32) (x1 : Int32) : entryFrame m #[(.int x0), (.int x1)] 2 = mkF m 0 #[.val (.int x0), .val (.int x1)] [] := by first | (simp [entryFrame, mkF, argsToLocals, Value.category]; done) | rfl
def Q10a (Z : State) (p1 : Int32) (p2 : Int32) (h0 : Heap) (n0 : Nat) (v : Option Value) (h : Heap) (L : List Loc) : Prop := v = some (.int p1) ∧ Fr n0 L ∧ h = h0
set_option maxRecDepth 65536 in
set_option maxHeartbeats 40000000 in
theorem rm10a (l : Launch) (Z : State) (a0 : Array Value) (hw : ∀ d ∈ tables_1, d.before a0 Z = true) (ws : List Jvm.Cond) (p1 : Int32) (p2 : Int32) (h0 : Heap) (n0 : Nat) (Z0 : n0 ≤ h0.size) (hc2 : ¬ (p1 < p2)) :
    MetFree l (⟨"java/lang/Math", "max", "(II)I"⟩ : MethodName) (head1 (Jvm.Cond.code (⟨"java/lang/Math", "max", "(II)I"⟩ : MethodName) jdk_29_method_65_code 2 (some .int) :: ws) ({ frames := 0, cells := 0, slots := 0, locals := 0 } : Room)) (fun a U => a = #[(.int p1), (.int p2)] ∧ Z.Warmed39 U.vm ∧ U.heap = h0) (fun _ _ _ _ _ => True) (fun _ U o U' => ∃ v L, o = .returned v ∧ Q10a Z p1 p2 h0 n0 v U'.heap L ∧ FrameEnd U o U' L ({ frames := 0, cells := 0, slots := 0, locals := 0 } : Room).cells ({ frames := 0, cells := 0, slots := 0, locals := 0 } : Room).slots) := by
  refine MetFree.of_bodySF (Jvm.Free.JP.mathPlain rfl (by decide +kernel)) hisR ?_
  intro p e s m args below meth c s₁ Bd hml0 hP hK
  obtain ⟨rfl, hZ, hh⟩ := hP
  have hx := Bd.exec
  have hby := Bd.bytes
  have hml : c.maxLocals = 2 := hml0
  have hown : s.vm.findClass "java/lang/Math" = some m.cls := findClass_of_methodNamed Bd.named
  have hnm := (name_of_methodNamed Bd.named Bd.method).1
  have X0 : Stand p l e ({ frames := 0, cells := 0, slots := 0, locals := 0 } : Room) s m #[(.int p1), (.int p2)] below meth c s₁ [] 0 0 := Stand.of_body Bd
  have e0 : s₁.heap = h0 := by rw [← hh, Bd.state]; rfl
  have N0 := Fr.nil n0
  have pre0 : ∀ t, Steps p.tables e below (s₁.setTop (mkF m 0 #[.val (.int p1), .val (.int p2)] [])) t → Steps p.tables e below (s₁.setTop (entryFrame m #[(.int p1), (.int p2)] 2)) t := fun t k => castTop (ef_10 m p1 p2) k

  obtain ⟨fs, hr, hrun, hended, hW, hsame⟩ := X0.leave (v := some (.int p1)) (fun h => by rw [Bd.returns] at h; cases h)
  refine ⟨_, _, pre0 _ ?_, hrun, hended, _, _, rfl, ?_, ⟨_, rfl⟩, hW, hsame.mono (by decide) (by decide)⟩
  · show Steps p.tables e below (s₁.setTop (mkF m 0 #[.val (.int p1), .val (.int p2)] [])) _
    refine XS.iloadN X0.here hx rfl (hb hby d10_0) rfl ?_
    show Steps p.tables e below (s₁.setTop (mkF m 1 #[.val (.int p1), .val (.int p2)] [(.int p1)])) _
    refine XS.iloadN X0.here hx rfl (hb hby d10_1) rfl ?_
    show Steps p.tables e below (s₁.setTop (mkF m 2 #[.val (.int p1), .val (.int p2)] [(.int p2), (.int p1)])) _
    refine XS.icmpNo X0.here hx rfl (hb hby d10_2) rfl (flt hc2).1 ?_
    show Steps p.tables e below (s₁.setTop (mkF m 5 #[.val (.int p1), .val (.int p2)] [])) _
    refine XS.iloadN X0.here hx rfl (hb hby d10_5) rfl ?_
    show Steps p.tables e below (s₁.setTop (mkF m 6 #[.val (.int p1), .val (.int p2)] [(.int p1)])) _
    refine XS.goto X0.here hx rfl (pc0 := 6) (pc' := 10) rfl (hb hby d10_6) (by decide) (by decide) ?_
    show Steps p.tables e below (s₁.setTop (mkF m 10 #[.val (.int p1), .val (.int p2)] [(.int p1)])) _
    exact retI X0 hx Bd.returns (hb hby d10_10) hr
  · show Q10a Z p1 p2 h0 n0 _ s₁.heap _
    rw [e0]
    exact ⟨rfl, N0, rfl⟩
theorem d10_9 : decode jdk_29_method_65_code 9 = .ok (.iload_n 1, 1) := by decide +kernel
def Q10b (Z : State) (p1 : Int32) (p2 : Int32) (h0 : Heap) (n0 : Nat) (v : Option Value) (h : Heap) (L : List Loc) : Prop := v = some (.int p2) ∧ Fr n0 L ∧ h = h0
set_option maxRecDepth 65536 in
set_option maxHeartbeats 40000000 in
theorem rm10b (l : Launch) (Z : State) (a0 : Array Value) (hw : ∀ d ∈ tables_1, d.before a0 Z = true) (ws : List Jvm.Cond) (p1 : Int32) (p2 : Int32) (h0 : Heap) (n0 : Nat) (Z0 : n0 ≤ h0.size) (hc2 : p1 < p2) :
    MetFree l (⟨"java/lang/Math", "max", "(II)I"⟩ : MethodName) (head1 (Jvm.Cond.code (⟨"java/lang/Math", "max", "(II)I"⟩ : MethodName) jdk_29_method_65_code 2 (some .int) :: ws) ({ frames := 0, cells := 0, slots := 0, locals := 0 } : Room)) (fun a U => a = #[(.int p1), (.int p2)] ∧ Z.Warmed39 U.vm ∧ U.heap = h0) (fun _ _ _ _ _ => True) (fun _ U o U' => ∃ v L, o = .returned v ∧ Q10b Z p1 p2 h0 n0 v U'.heap L ∧ FrameEnd U o U' L ({ frames := 0, cells := 0, slots := 0, locals := 0 } : Room).cells ({ frames := 0, cells := 0, slots := 0, locals := 0 } : Room).slots) := by
  refine MetFree.of_bodySF (Jvm.Free.JP.mathPlain rfl (by decide +kernel)) hisR ?_
  intro p e s m args below meth c s₁ Bd hml0 hP hK
  obtain ⟨rfl, hZ, hh⟩ := hP
  have hx := Bd.exec
  have hby := Bd.bytes
  have hml : c.maxLocals = 2 := hml0
  have hown : s.vm.findClass "java/lang/Math" = some m.cls := findClass_of_methodNamed Bd.named
  have hnm := (name_of_methodNamed Bd.named Bd.method).1
  have X0 : Stand p l e ({ frames := 0, cells := 0, slots := 0, locals := 0 } : Room) s m #[(.int p1), (.int p2)] below meth c s₁ [] 0 0 := Stand.of_body Bd
  have e0 : s₁.heap = h0 := by rw [← hh, Bd.state]; rfl
  have N0 := Fr.nil n0
  have pre0 : ∀ t, Steps p.tables e below (s₁.setTop (mkF m 0 #[.val (.int p1), .val (.int p2)] [])) t → Steps p.tables e below (s₁.setTop (entryFrame m #[(.int p1), (.int p2)] 2)) t := fun t k => castTop (ef_10 m p1 p2) k

  obtain ⟨fs, hr, hrun, hended, hW, hsame⟩ := X0.leave (v := some (.int p2)) (fun h => by rw [Bd.returns] at h; cases h)
  refine ⟨_, _, pre0 _ ?_, hrun, hended, _, _, rfl, ?_, ⟨_, rfl⟩, hW, hsame.mono (by decide) (by decide)⟩
  · show Steps p.tables e below (s₁.setTop (mkF m 0 #[.val (.int p1), .val (.int p2)] [])) _
    refine XS.iloadN X0.here hx rfl (hb hby d10_0) rfl ?_
    show Steps p.tables e below (s₁.setTop (mkF m 1 #[.val (.int p1), .val (.int p2)] [(.int p1)])) _
    refine XS.iloadN X0.here hx rfl (hb hby d10_1) rfl ?_
    show Steps p.tables e below (s₁.setTop (mkF m 2 #[.val (.int p1), .val (.int p2)] [(.int p2), (.int p1)])) _
    refine XS.icmpYes X0.here hx rfl (pc0 := 2) (pc' := 9) rfl (hb hby d10_2) rfl (tlt hc2).1 (by decide) (by decide) ?_
    show Steps p.tables e below (s₁.setTop (mkF m 9 #[.val (.int p1), .val (.int p2)] [])) _
    refine XS.iloadN X0.here hx rfl (hb hby d10_9) rfl ?_
    show Steps p.tables e below (s₁.setTop (mkF m 10 #[.val (.int p1), .val (.int p2)] [(.int p2)])) _
    exact retI X0 hx Bd.returns (hb hby d10_10) hr
  · show Q10b Z p1 p2 h0 n0 _ s₁.heap _
    rw [e0]
    exact ⟨rfl, N0, rfl⟩
def own_f10 (p1 : Int32) (p2 : Int32) : Int32 := (if p1 < p2 then p2 else p1)
theorem rm10 (l : Launch) (Z : State) (a0 : Array Value) (hw : ∀ d ∈ tables_1, d.before a0 Z = true) (ws : List Jvm.Cond) (p1 : Int32) (p2 : Int32) (h0 : Heap) (n0 : Nat) (Z0 : n0 ≤ h0.size) :
    MetFree l (⟨"java/lang/Math", "max", "(II)I"⟩ : MethodName) (head1 (Jvm.Cond.code (⟨"java/lang/Math", "max", "(II)I"⟩ : MethodName) jdk_29_method_65_code 2 (some .int) :: ws) ({ frames := 0, cells := 0, slots := 0, locals := 0 } : Room)) (fun a U => a = #[(.int p1), (.int p2)] ∧ Z.Warmed39 U.vm ∧ U.heap = h0) (fun _ _ _ _ _ => True) (fun _ U o U' => ∃ v L, o = .returned v ∧ own_Qr h0 n0 (.int (own_f10 p1 p2)) v U'.heap L ∧ FrameEnd U o U' L ({ frames := 0, cells := 0, slots := 0, locals := 0 } : Room).cells ({ frames := 0, cells := 0, slots := 0, locals := 0 } : Room).slots) := by
  unfold own_f10
  by_cases hc2 : p1 < p2
  · rw [if_pos hc2]
    exact rm10b l Z a0 hw ws p1 p2 h0 n0 Z0 hc2
  · rw [if_neg hc2]
    exact rm10a l Z a0 hw ws p1 p2 h0 n0 Z0 hc2
theorem d12_0 : decode jdk_29_method_69_code 0 = .ok (.iload_n 0, 1) := by decide +kernel
theorem d12_1 : decode jdk_29_method_69_code 1 = .ok (.iload_n 1, 1) := by decide +kernel
theorem d12_2 : decode jdk_29_method_69_code 2 = .ok (.if_icmp .gt 7, 3) := by decide +kernel
theorem d12_5 : decode jdk_29_method_69_code 5 = .ok (.iload_n 0, 1) := by decide +kernel
theorem d12_6 : decode jdk_29_method_69_code 6 = .ok (.goto 4, 3) := by decide +kernel
theorem d12_10 : decode jdk_29_method_69_code 10 = .ok (.ireturn, 1) := by decide +kernel
theorem ef_12 (m : MethodId) (x0 : Int32) (x1 : Int32) : entryFrame m #[(.int x0), (.int x1)] 2 = mkF m 0 #[.val (.int x0), .val (.int x1)] [] := by first | (simp [entryFrame, mkF, argsToLocals, Value.category]; done) | rfl
def Q12a (Z : State) (p1 : Int32) (p2 : Int32) (h0 : Heap) (n0 : Nat) (v : Option Value) (h : Heap) (L : List Loc) : Prop := v = some (.int p1) ∧ Fr n0 L ∧ h = h0
set_option maxRecDepth 65536 in
set_option maxHeartbeats 40000000 in
theorem rm12a (l : Launch) (Z : State) (a0 : Array Value) (hw : ∀ d ∈ tables_1, d.before a0 Z = true) (ws : List Jvm.Cond) (p1 : Int32) (p2 : Int32) (h0 : Heap) (n0 : Nat) (Z0 : n0 ≤ h0.size) (hc2 : ¬ (p2 < p1)) :
    MetFree l (⟨"java/lang/Math", "min", "(II)I"⟩ : MethodName) (head1 (Jvm.Cond.code (⟨"java/lang/Math", "min", "(II)I"⟩ : MethodName) jdk_29_method_69_code 2 (some .int) :: ws) ({ frames := 0, cells := 0, slots := 0, locals := 0 } : Room)) (fun a U => a = #[(.int p1), (.int p2)] ∧ Z.Warmed39 U.vm ∧ U.heap = h0) (fun _ _ _ _ _ => True) (fun _ U o U' => ∃ v L, o = .returned v ∧ Q12a Z p1 p2 h0 n0 v U'.heap L ∧ FrameEnd U o U' L ({ frames := 0, cells := 0, slots := 0, locals := 0 } : Room).cells ({ frames := 0, cells := 0, slots := 0, locals := 0 } : Room).slots) := by
  refine MetFree.of_bodySF (Jvm.Free.JP.mathPlain rfl (by decide +kernel)) hisR ?_
  intro p e s m args below meth c s₁ Bd hml0 hP hK
  obtain ⟨rfl, hZ, hh⟩ := hP
  have hx := Bd.exec
  have hby := Bd.bytes
  have hml : c.maxLocals = 2 := hml0
  have hown : s.vm.findClass "java/lang/Math" = some m.cls := findClass_of_methodNamed Bd.named
  have hnm := (name_of_methodNamed Bd.named Bd.method).1
  have X0 : Stand p l e ({ frames := 0, cells := 0, slots := 0, locals := 0 } : Room) s m #[(.int p1), (.int p2)] below meth c s₁ [] 0 0 := Stand.of_body Bd
  have e0 : s₁.heap = h0 := by rw [← hh, Bd.state]; rfl
  have N0 := Fr.nil n0
  have pre0 : ∀ t, Steps p.tables e below (s₁.setTop (mkF m 0 #[.val (.int p1), .val (.int p2)] [])) t → Steps p.tables e below (s₁.setTop (entryFrame m #[(.int p1), (.int p2)] 2)) t := fun t k => castTop (ef_12 m p1 p2) k

  obtain ⟨fs, hr, hrun, hended, hW, hsame⟩ := X0.leave (v := some (.int p1)) (fun h => by rw [Bd.returns] at h; cases h)
  refine ⟨_, _, pre0 _ ?_, hrun, hended, _, _, rfl, ?_, ⟨_, rfl⟩, hW, hsame.mono (by decide) (by decide)⟩
  · show Steps p.tables e below (s₁.setTop (mkF m 0 #[.val (.int p1), .val (.int p2)] [])) _
    refine XS.iloadN X0.here hx rfl (hb hby d12_0) rfl ?_
    show Steps p.tables e below (s₁.setTop (mkF m 1 #[.val (.int p1), .val (.int p2)] [(.int p1)])) _
    refine XS.iloadN X0.here hx rfl (hb hby d12_1) rfl ?_
    show Steps p.tables e below (s₁.setTop (mkF m 2 #[.val (.int p1), .val (.int p2)] [(.int p2), (.int p1)])) _
    refine XS.icmpNo X0.here hx rfl (hb hby d12_2) rfl (flt hc2).2.2.1 ?_
    show Steps p.tables e below (s₁.setTop (mkF m 5 #[.val (.int p1), .val (.int p2)] [])) _
    refine XS.iloadN X0.here hx rfl (hb hby d12_5) rfl ?_
    show Steps p.tables e below (s₁.setTop (mkF m 6 #[.val (.int p1), .val (.int p2)] [(.int p1)])) _
    refine XS.goto X0.here hx rfl (pc0 := 6) (pc' := 10) rfl (hb hby d12_6) (by decide) (by decide) ?_
    show Steps p.tables e below (s₁.setTop (mkF m 10 #[.val (.int p1), .val (.int p2)] [(.int p1)])) _
    exact retI X0 hx Bd.returns (hb hby d12_10) hr
  · show Q12a Z p1 p2 h0 n0 _ s₁.heap _
    rw [e0]
    exact ⟨rfl, N0, rfl⟩
theorem d12_9 : decode jdk_29_method_69_code 9 = .ok (.iload_n 1, 1) := by decide +kernel
def Q12b (Z : State) (p1 : Int32) (p2 : Int32) (h0 : Heap) (n0 : Nat) (v : Option Value) (h : Heap) (L : List Loc) : Prop := v = some (.int p2) ∧ Fr n0 L ∧ h = h0
set_option maxRecDepth 65536 in
set_option maxHeartbeats 40000000 in
theorem rm12b (l : Launch) (Z : State) (a0 : Array Value) (hw : ∀ d ∈ tables_1, d.before a0 Z = true) (ws : List Jvm.Cond) (p1 : Int32) (p2 : Int32) (h0 : Heap) (n0 : Nat) (Z0 : n0 ≤ h0.size) (hc2 : p2 < p1) :
    MetFree l (⟨"java/lang/Math", "min", "(II)I"⟩ : MethodName) (head1 (Jvm.Cond.code (⟨"java/lang/Math", "min", "(II)I"⟩ : MethodName) jdk_29_method_69_code 2 (some .int) :: ws) ({ frames := 0, cells := 0, slots := 0, locals := 0 } : Room)) (fun a U => a = #[(.int p1), (.int p2)] ∧ Z.Warmed39 U.vm ∧ U.heap = h0) (fun _ _ _ _ _ => True) (fun _ U o U' => ∃ v L, o = .returned v ∧ Q12b Z p1 p2 h0 n0 v U'.heap L ∧ FrameEnd U o U' L ({ frames := 0, cells := 0, slots := 0, locals := 0 } : Room).cells ({ frames := 0, cells := 0, slots := 0, locals := 0 } : Room).slots) := by
  refine MetFree.of_bodySF (Jvm.Free.JP.mathPlain rfl (by decide +kernel)) hisR ?_
  intro p e s m args below meth c s₁ Bd hml0 hP hK
  obtain ⟨rfl, hZ, hh⟩ := hP
  have hx := Bd.exec
  have hby := Bd.bytes
  have hml : c.maxLocals = 2 := hml0
  have hown : s.vm.findClass "java/lang/Math" = some m.cls := findClass_of_methodNamed Bd.named
  have hnm := (name_of_methodNamed Bd.named Bd.method).1
  have X0 : Stand p l e ({ frames := 0, cells := 0, slots := 0, locals := 0 } : Room) s m #[(.int p1), (.int p2)] below meth c s₁ [] 0 0 := Stand.of_body Bd
  have e0 : s₁.heap = h0 := by rw [← hh, Bd.state]; rfl
  have N0 := Fr.nil n0
  have pre0 : ∀ t, Steps p.tables e below (s₁.setTop (mkF m 0 #[.val (.int p1), .val (.int p2)] [])) t → Steps p.tables e below (s₁.setTop (entryFrame m #[(.int p1), (.int p2)] 2)) t := fun t k => castTop (ef_12 m p1 p2) k

  obtain ⟨fs, hr, hrun, hended, hW, hsame⟩ := X0.leave (v := some (.int p2)) (fun h => by rw [Bd.returns] at h; cases h)
  refine ⟨_, _, pre0 _ ?_, hrun, hended, _, _, rfl, ?_, ⟨_, rfl⟩, hW, hsame.mono (by decide) (by decide)⟩
  · show Steps p.tables e below (s₁.setTop (mkF m 0 #[.val (.int p1), .val (.int p2)] [])) _
    refine XS.iloadN X0.here hx rfl (hb hby d12_0) rfl ?_
    show Steps p.tables e below (s₁.setTop (mkF m 1 #[.val (.int p1), .val (.int p2)] [(.int p1)])) _
    refine XS.iloadN X0.here hx rfl (hb hby d12_1) rfl ?_
    show Steps p.tables e below (s₁.setTop (mkF m 2 #[.val (.int p1), .val (.int p2)] [(.int p2), (.int p1)])) _
    refine XS.icmpYes X0.here hx rfl (pc0 := 2) (pc' := 9) rfl (hb hby d12_2) rfl (tlt hc2).2.2.1 (by decide) (by decide) ?_
    show Steps p.tables e below (s₁.setTop (mkF m 9 #[.val (.int p1), .val (.int p2)] [])) _
    refine XS.iloadN X0.here hx rfl (hb hby d12_9) rfl ?_
    show Steps p.tables e below (s₁.setTop (mkF m 10 #[.val (.int p1), .val (.int p2)] [(.int p2)])) _
    exact retI X0 hx Bd.returns (hb hby d12_10) hr
  · show Q12b Z p1 p2 h0 n0 _ s₁.heap _
    rw [e0]
    exact ⟨rfl, N0, rfl⟩
def own_f12 (p1 : Int32) (p2 : Int32) : Int32 := (if p2 < p1 then p2 else p1)
theorem rm12 (l : Launch) (Z : State) (a0 : Array Value) (hw : ∀ d ∈ tables_1, d.before a0 Z = true) (ws : List Jvm.Cond) (p1 : Int32) (p2 : Int32) (h0 : Heap) (n0 : Nat) (Z0 : n0 ≤ h0.size) :
    MetFree l (⟨"java/lang/Math", "min", "(II)I"⟩ : MethodName) (head1 (Jvm.Cond.code (⟨"java/lang/Math", "min", "(II)I"⟩ : MethodName) jdk_29_method_69_code 2 (some .int) :: ws) ({ frames := 0, cells := 0, slots := 0, locals := 0 } : Room)) (fun a U => a = #[(.int p1), (.int p2)] ∧ Z.Warmed39 U.vm ∧ U.heap = h0) (fun _ _ _ _ _ => True) (fun _ U o U' => ∃ v L, o = .returned v ∧ own_Qr h0 n0 (.int (own_f12 p1 p2)) v U'.heap L ∧ FrameEnd U o U' L ({ frames := 0, cells := 0, slots := 0, locals := 0 } : Room).cells ({ frames := 0, cells := 0, slots := 0, locals := 0 } : Room).slots) := by
  unfold own_f12
  by_cases hc2 : p2 < p1
  · rw [if_pos hc2]
    exact rm12b l Z a0 hw ws p1 p2 h0 n0 Z0 hc2
  · rw [if_neg hc2]
    exact rm12a l Z a0 hw ws p1 p2 h0 n0 Z0 hc2

theorem own_dd (d : Value) : ∀ (l : List Value) (h : ∀ x ∈ l, x = d) (k : Nat), l.getD k d = d := fun l h k => by
  rw [List.getD_eq_getElem?_getD]
  cases q : l[k]? with
  | none => rfl
  | some v => exact h v (List.mem_of_getElem? q)
theorem own_cpl (f : Nat → Value) (d : Value) (n N : Nat) (j : Nat) : (((List.range N).map (fun _ => d)).take 0 ++ (List.range n).map (fun i => ((List.range n).map f).getD (0 + i) d) ++ ((List.range N).map (fun _ => d)).drop (0 + n)).getD j d = if j < n then f j else d := by
  rw [List.take_zero, List.nil_append]
  by_cases q : j < n
  · rw [if_pos q, List.getD_eq_getElem?_getD, List.getElem?_append_left (by simpa using q)]
    simp [List.getD_eq_getElem?_getD, q]
  · rw [if_neg q, List.getD_eq_getElem?_getD, List.getElem?_append_right (by simpa using q), ← List.getD_eq_getElem?_getD]
    refine own_dd d _ (fun x hx => ?_) _
    have hx' := List.mem_of_mem_drop hx
    simp only [List.mem_map] at hx'
    obtain ⟨_, _, e⟩ := hx'
    exact e.symm
theorem own_min (a b : Nat) (h : a < b) (hb' : b < 2147483648) : own_f12 (Int32.ofNat a) (Int32.ofNat b) = Int32.ofNat a := by
  unfold own_f12
  rw [if_neg]
  rw [own_ltn hb' (by omega)]; omega
theorem d11_0 : decode jdk_65_method_124_code 0 = .ok (.iload_n 1, 1) := by decide +kernel
theorem d11_1 : decode jdk_65_method_124_code 1 = .ok (.aload_n 0, 1) := by decide +kernel
theorem d11_2 : decode jdk_65_method_124_code 2 = .ok (.arraylength, 1) := by decide +kernel
theorem d11_3 : decode jdk_65_method_124_code 3 = .ok (.if_icmp .ne 11, 3) := by decide +kernel
theorem d11_14 : decode jdk_65_method_124_code 14 = .ok (.iload_n 1, 1) := by decide +kernel
theorem d11_15 : decode jdk_65_method_124_code 15 = .ok (.newarray .long, 2) := by decide +kernel
theorem d11_17 : decode jdk_65_method_124_code 17 = .ok (.astore_n 2, 1) := by decide +kernel
theorem d11_18 : decode jdk_65_method_124_code 18 = .ok (.aload_n 0, 1) := by decide +kernel
theorem d11_19 : decode jdk_65_method_124_code 19 = .ok (.iconst 0, 1) := by decide +kernel
theorem d11_20 : decode jdk_65_method_124_code 20 = .ok (.aload_n 2, 1) := by decide +kernel
theorem d11_21 : decode jdk_65_method_124_code 21 = .ok (.iconst 0, 1) := by decide +kernel
theorem d11_22 : decode jdk_65_method_124_code 22 = .ok (.aload_n 0, 1) := by decide +kernel
theorem d11_23 : decode jdk_65_method_124_code 23 = .ok (.arraylength, 1) := by decide +kernel
theorem d11_24 : decode jdk_65_method_124_code 24 = .ok (.iload_n 1, 1) := by decide +kernel
theorem d11_25 : decode jdk_65_method_124_code 25 = .ok (.invokestatic 304, 3) := by decide +kernel
theorem pd_11_6 : parseMethodDescriptor "(II)I" = some ⟨[.int, .int], some .int⟩ := by decide +kernel
theorem os11_17 {z0 : Value} {z1 : Value} {s2 : Slot} {v : Addr} (h : One s2) : storeLocals #[.val z0, .val z1, s2] 2 (.ref v) = some #[.val z0, .val z1, .val (.ref v)] := by
  rcases h with rfl | ⟨w, rfl, hw⟩
  · rfl
  · cases w <;> first | rfl | (simp [Value.category] at hw)
set_option maxRecDepth 65536 in
set_option maxHeartbeats 40000000 in
theorem tn11_0_28 {p : Program} {l : Launch} {e : Env} {s : State} {m : MethodId} {args : Array Value} {below : List Frame} {meth : Method} {c : Code} {T0 : State} {locs : List Loc} {Z : State} {a0 : Array Value} {h0 : Heap} {n0 : Nat} (o0 : Addr) (i1 : Int32) (cl_o0 : Cell) (z_o0 : Int32)
    (X0 : Stand p l e ({ frames := 1, cells := 1, slots := 4, locals := 18 } : Room) s m args below meth c T0 locs 0 0) (hx : p.tables.exec = Jvm.exec) (hZ : Z.Warmed39 s.vm) (hw : ∀ d ∈ tables_1, d.before a0 Z = true) (hby : c.code = jdk_65_method_124_code) (hml : c.maxLocals = 3) (hown : s.vm.findClass "java/util/Arrays" = some m.cls) (e0 : T0.heap = h0) (N0 : Fr n0 locs) (Z0 : n0 ≤ h0.size) (Ar_o0 : Arr Z h0 o0 cl_o0 .long) (S_o0 : cl_o0.slots.size = z_o0.toNatClampNeg) (N_o0 : ¬ z_o0 < 0) (hs2 : One .unset) (hc3 : ¬ (i1 = z_o0)) (hnn : ¬ i1 < 0) (hcap : i1.toNatClampNeg ≤ 4) :
    ∃ (b3 : Addr) (T' : State) (h' : Heap) (locs' : List Loc), Stand p l e ({ frames := 1, cells := 1, slots := 4, locals := 18 } : Room) s m args below meth c T' locs' 1 4 ∧ T'.heap = h' ∧ Fr n0 locs' ∧ n0 ≤ h'.size ∧ (own_AF Z h' b3 .long i1.toNatClampNeg (fun _ => (.long 0)) ∧ n0 ≤ b3 ∧ h0.size ≤ b3 ∧ Keep h0 h' []) ∧
      ∀ target, Steps p.tables e below (T'.setTop (mkF m 28 #[.val (.ref o0), .val (.int i1), .val (.ref b3)] [(.int (own_f12 z_o0 i1)), (.int (0 : Int32)), (.ref b3), (.int (0 : Int32)), (.ref o0)])) target → Steps p.tables e below (T0.setTop (mkF m 0 #[.val (.ref o0), .val (.int i1), .unset] [])) target := by
  obtain ⟨T3, h3, k3, X3, e3, E3, A3, st3⟩ := newP X0 hx hZ (hw _ (List.mem_of_getElem? (i := 75) rfl)) e0 (g := (mkF m 15 #[.val (.ref o0), .val (.int i1), .unset] [(.int i1)])) rfl (hb hby d11_15) rfl hnn (cap := 4) hcap (by decide) (by decide) (by decide)
  obtain ⟨b3, g3⟩ : ∃ z, z = h0.size := ⟨_, rfl⟩
  rw [← g3] at A3 st3
  have V_b3 := Arv.new A3 hnn
  have g_b3 : n0 ≤ b3 := Nat.le_trans Z0 (Nat.le_of_eq g3.symm)
  have sz_b3 : h0.size ≤ b3 := (Nat.le_trans (Keep.refl h0 []).1 (Nat.le_of_eq g3.symm))
  have K3 : Keep h0 h3 [] := (Keep.refl h0 []).ext E3
  obtain ⟨_, _, ⟨T4, L4, k4, n4⟩, -, X4, ⟨Lc4, hQ4, l4, y4, z4⟩, st4⟩ := Jvm.LawKit.callS X3 hx (y := (⟨"java/lang/Math", "min", "(II)I"⟩ : MethodName)) hown (mvT hZ (hw _ (List.mem_of_getElem? (i := 76) rfl))) (mvT hZ (hw _ (List.mem_of_getElem? (i := 77) rfl))) (mvT hZ (hw _ (List.mem_of_getElem? (i := 69) rfl))) (mvT hZ (hw _ (List.mem_of_getElem? (i := 78) rfl))) (by decide) (backOf (W := 4) (rm12 l Z a0 hw [] z_o0 i1 h3 n0 (Nat.le_trans Z0 E3.1)) hZ (hw _ (List.mem_of_getElem? (i := 78) rfl)) (hw _ (List.mem_of_getElem? (i := 69) rfl)) (by decide) (by decide)) (g := (mkF m 25 #[.val (.ref o0), .val (.int i1), .val (.ref b3)] [(.int i1), (.int z_o0), (.int (0 : Int32)), (.ref b3), (.int (0 : Int32)), (.ref o0)])) rfl (by rw [hml]; rfl) (argsL := [(.int z_o0), (.int i1)]) (rest := [(.int (0 : Int32)), (.ref b3), (.int (0 : Int32)), (.ref o0)]) (lenOf pd_11_6 rfl) rfl (by show 2 * 0 + _ ≤ _; exact Nat.le_of_eq rfl) (hb hby d11_25) (fun _ _ => ⟨rfl, e3, (Nat.le_of_ble_eq_true rfl), (Nat.le_of_ble_eq_true rfl)⟩)
  dsimp only [Pt.U, Pt.locs, Pt.cells, Pt.slots] at X4 l4 y4 z4 st4 hQ4
  subst l4 y4 z4
  obtain ⟨rfl, N4q, q4⟩ := hQ4
  have N4 := Fr.app N0 N4q
  refine ⟨b3, T4, _, _, X4, rfl, N4, (by rw [q4]; exact Nat.le_trans Z0 E3.1), ⟨by rw [q4]; exact own_AF.of V_b3 _ rfl _ (fun j _ => rfl), g_b3, sz_b3, by rw [q4]; exact K3⟩, fun target kt => ?_⟩
  show Steps p.tables e below (T0.setTop (mkF m 0 #[.val (.ref o0), .val (.int i1), .unset] [])) _
  refine XS.iloadN X0.here hx rfl (hb hby d11_0) rfl ?_
  show Steps p.tables e below (T0.setTop (mkF m 1 #[.val (.ref o0), .val (.int i1), .unset] [(.int i1)])) _
  refine XS.aloadN X0.here hx rfl (hb hby d11_1) rfl rfl ?_
  show Steps p.tables e below (T0.setTop (mkF m 2 #[.val (.ref o0), .val (.int i1), .unset] [(.ref o0), (.int i1)])) _
  refine X0.arraylength hx (by rw [e0]; exact Ar_o0.1) (State.isArrayOf_alike hZ.alike Ar_o0.2.1) (g := (mkF m 2 #[.val (.ref o0), .val (.int i1), .unset] [(.ref o0), (.int i1)])) rfl rfl (hb hby d11_2) _ ?_
  rw [len_of S_o0 N_o0]
  show Steps p.tables e below (T0.setTop (mkF m 3 #[.val (.ref o0), .val (.int i1), .unset] [(.int z_o0), (.int i1)])) _
  refine XS.icmpYes X0.here hx rfl (pc0 := 3) (pc' := 14) rfl (hb hby d11_3) rfl (feq hc3).2 (by decide) (by decide) ?_
  show Steps p.tables e below (T0.setTop (mkF m 14 #[.val (.ref o0), .val (.int i1), .unset] [])) _
  refine XS.iloadN X0.here hx rfl (hb hby d11_14) rfl ?_
  show Steps p.tables e below (T0.setTop (mkF m 15 #[.val (.ref o0), .val (.int i1), .unset] [(.int i1)])) _
  refine st3 _ ?_
  show Steps p.tables e below (T3.setTop (mkF m 17 #[.val (.ref o0), .val (.int i1), .unset] [(.ref b3)])) _
  refine XS.astoreN X3.here hx rfl (hb hby d11_17) rfl rfl (l' := #[.val (.ref o0), .val (.int i1), .val (.ref b3)]) (os11_17 hs2) ?_
  show Steps p.tables e below (T3.setTop (mkF m 18 #[.val (.ref o0), .val (.int i1), .val (.ref b3)] [])) _
  refine XS.aloadN X3.here hx rfl (hb hby d11_18) rfl rfl ?_
  show Steps p.tables e below (T3.setTop (mkF m 19 #[.val (.ref o0), .val (.int i1), .val (.ref b3)] [(.ref o0)])) _
  refine XS.iconst X3.here hx rfl (hb hby d11_19) ?_
  show Steps p.tables e below (T3.setTop (mkF m 20 #[.val (.ref o0), .val (.int i1), .val (.ref b3)] [(.int (0 : Int32)), (.ref o0)])) _
  refine XS.aloadN X3.here hx rfl (hb hby d11_20) rfl rfl ?_
  show Steps p.tables e below (T3.setTop (mkF m 21 #[.val (.ref o0), .val (.int i1), .val (.ref b3)] [(.ref b3), (.int (0 : Int32)), (.ref o0)])) _
  refine XS.iconst X3.here hx rfl (hb hby d11_21) ?_
  show Steps p.tables e below (T3.setTop (mkF m 22 #[.val (.ref o0), .val (.int i1), .val (.ref b3)] [(.int (0 : Int32)), (.ref b3), (.int (0 : Int32)), (.ref o0)])) _
  refine XS.aloadN X3.here hx rfl (hb hby d11_22) rfl rfl ?_
  show Steps p.tables e below (T3.setTop (mkF m 23 #[.val (.ref o0), .val (.int i1), .val (.ref b3)] [(.ref o0), (.int (0 : Int32)), (.ref b3), (.int (0 : Int32)), (.ref o0)])) _
  refine X3.arraylength hx (by rw [e3]; exact (Ar_o0.ext E3).1) (State.isArrayOf_alike hZ.alike Ar_o0.2.1) (g := (mkF m 23 #[.val (.ref o0), .val (.int i1), .val (.ref b3)] [(.ref o0), (.int (0 : Int32)), (.ref b3), (.int (0 : Int32)), (.ref o0)])) rfl rfl (hb hby d11_23) _ ?_
  rw [len_of S_o0 N_o0]
  show Steps p.tables e below (T3.setTop (mkF m 24 #[.val (.ref o0), .val (.int i1), .val (.ref b3)] [(.int z_o0), (.int (0 : Int32)), (.ref b3), (.int (0 : Int32)), (.ref o0)])) _
  refine XS.iloadN X3.here hx rfl (hb hby d11_24) rfl ?_
  show Steps p.tables e below (T3.setTop (mkF m 25 #[.val (.ref o0), .val (.int i1), .val (.ref b3)] [(.int i1), (.int z_o0), (.int (0 : Int32)), (.ref b3), (.int (0 : Int32)), (.ref o0)])) _
  refine st4 _ ?_
  exact kt
theorem d11_28 : decode jdk_65_method_124_code 28 = .ok (.invokestatic 150, 3) := by decide +kernel
theorem d11_31 : decode jdk_65_method_124_code 31 = .ok (.aload_n 2, 1) := by decide +kernel
theorem d11_32 : decode jdk_65_method_124_code 32 = .ok (.areturn, 1) := by decide +kernel
theorem pn_11 : plainName "java/util/Arrays" = true := by first | (simp [plainName, overriddenIn]; done) | decide +kernel
theorem ef_11 (m : MethodId) (x0 : Addr) (x1 : Int32) : entryFrame m #[(.ref x0), (.int x1)] 3 = mkF m 0 #[.val (.ref x0), .val (.int x1), .unset] [] := by first | (simp [entryFrame, mkF, argsToLocals, Value.category]; done) | rfl

def Q11 (Z : State) (N0L N1 : Nat) (f : Nat → Value) (h0 : Heap) (n0 : Nat) (v : Option Value) (h : Heap) (L : List Loc) : Prop := ∃ b : Addr, v = some (.ref b) ∧ Fr n0 L ∧ Keep h0 h [] ∧ h0.size ≤ b ∧ own_AF Z h b .long N1 (fun j => if j < N0L then f j else (.long 0))

set_option maxRecDepth 65536 in
set_option maxHeartbeats 40000000 in
theorem rm11 (l : Launch) (Z : State) (a0 : Array Value) (hw : ∀ d ∈ tables_1, d.before a0 Z = true) (ws : List Jvm.Cond) (a1 : Addr) (N0L N1 : Nat) (hlt : N0L < N1) (hcap : N1 ≤ 4) (f : Nat → Value) (h0 : Heap) (n0 : Nat) (Z0 : n0 ≤ h0.size) (V : own_AF Z h0 a1 .long N0L f) :
    MetFree l (⟨"java/util/Arrays", "copyOf", "([JI)[J"⟩ : MethodName) (head1 (Jvm.Cond.code (⟨"java/util/Arrays", "copyOf", "([JI)[J"⟩ : MethodName) jdk_65_method_124_code 3 (some (.array .long)) :: ws) ({ frames := 1, cells := 1, slots := 4, locals := 18 } : Room)) (fun a U => a = #[(.ref a1), (.int (Int32.ofNat N1))] ∧ Z.Warmed39 U.vm ∧ U.heap = h0) (fun _ _ _ _ _ => True) (fun _ U o U' => ∃ v L, o = .returned v ∧ Q11 Z N0L N1 f h0 n0 v U'.heap L ∧ FrameEnd U o U' L ({ frames := 1, cells := 1, slots := 4, locals := 18 } : Room).cells ({ frames := 1, cells := 1, slots := 4, locals := 18 } : Room).slots) := by
  refine MetFree.of_bodySF (plainFor_of_name pn_11) hisR ?_
  intro p e s m args below meth c s₁ Bd hml0 hP hK
  obtain ⟨rfl, hZ, hh⟩ := hP
  have hx := Bd.exec
  have hby := Bd.bytes
  have hml : c.maxLocals = 3 := hml0
  have hown : s.vm.findClass "java/util/Arrays" = some m.cls := findClass_of_methodNamed Bd.named
  have X0 : Stand p l e ({ frames := 1, cells := 1, slots := 4, locals := 18 } : Room) s m #[(.ref a1), (.int (Int32.ofNat N1))] below meth c s₁ [] 0 0 := Stand.of_body Bd
  have e0 : s₁.heap = h0 := by rw [← hh, Bd.state]; rfl
  have N0 := Fr.nil n0
  have pre0 : ∀ t, Steps p.tables e below (s₁.setTop (mkF m 0 #[.val (.ref a1), .val (.int (Int32.ofNat N1)), .unset] [])) t → Steps p.tables e below (s₁.setTop (entryFrame m #[(.ref a1), (.int (Int32.ofNat N1))] 3)) t := fun t k => castTop (ef_11 m a1 (Int32.ofNat N1)) k
  obtain ⟨hq, cl, Ar, S, H, Gf⟩ := id V
  obtain ⟨b, T1, h1, l1, X1, e1, N1', Z1, ⟨VB, gb, sb, K1⟩, st1⟩ := tn11_0_28 a1 (Int32.ofNat N1) cl (Int32.ofNat N0L) X0 hx hZ hw hby hml hown e0 N0 Z0 Ar (by rw [own_nc hq]; exact S) (own_nneg hq) One.u (fun z => by have := congrArg Int32.toInt z; rw [own_ti (by omega), own_ti hq] at this; omega) (own_nneg (by omega)) (by rw [own_nc (by omega)]; exact hcap)
  rw [own_min N0L N1 hlt (by omega)] at st1
  rw [own_nc (by omega)] at VB
  obtain ⟨ka, VA⟩ := (V.keep K1 nin0).arv (.long 0)
  obtain ⟨kb, VC⟩ := VB.arv (.long 0)
  obtain ⟨T2, h2, l2, X2, e2, N2, K2, V2, st2⟩ := cpA X1 hx hZ hown (hw _ (List.mem_of_getElem? (i := 79) rfl)) (hw _ (List.mem_of_getElem? (i := 82) rfl)) (hw _ (List.mem_of_getElem? (i := 80) rfl)) (hw _ (List.mem_of_getElem? (i := 81) rfl)) e1 VA VC (Or.inl ⟨rfl, rfl⟩) (sp := 0) (dp := 0) (nn := Int32.ofNat N0L) (by decide) (by decide) (own_nneg hq) (by rw [own_nc hq]; exact Nat.le_of_eq (Nat.zero_add _)) (by rw [own_nc hq, own_nc (by omega)]; show 0 + _ ≤ _; omega) rfl (by rw [own_nc hq]; simp; omega) N1' gb (g := (mkF m 28 #[.val (.ref a1), .val (.int (Int32.ofNat N1)), .val (.ref b)] [(.int (Int32.ofNat N0L)), (.int (0 : Int32)), (.ref b), (.int (0 : Int32)), (.ref a1)])) rfl (by rw [hml]; rfl) rfl (hb hby d11_28) (by decide) (W := 0) (by show 2 * 0 + _ ≤ _; exact Nat.le_of_eq rfl) (by decide)
  rw [own_nc hq] at V2
  have V3 : own_AF Z h2 b .long N1 (fun j => if j < N0L then f j else (.long 0)) := own_AF.of V2 N1 (own_nc (by omega)) _ (fun j hj => own_cpl f (.long 0) N0L N1 j)
  obtain ⟨fs, hr, hrun, hended, hW, hsame⟩ := X2.leave (v := some (.ref b)) (fun h => by rw [Bd.returns] at h; cases h)
  refine ⟨_, _, pre0 _ ?_, hrun, hended, _, _, rfl, ?_, ⟨_, rfl⟩, hW, hsame.mono (by decide) (by decide)⟩
  · refine st1 _ (st2 _ ?_)
    show Steps p.tables e below (T2.setTop (mkF m 31 #[.val (.ref a1), .val (.int (Int32.ofNat N1)), .val (.ref b)] [])) _
    refine XS.aloadN X2.here hx rfl (hb hby d11_31) rfl rfl ?_
    show Steps p.tables e below (T2.setTop (mkF m 32 #[.val (.ref a1), .val (.int (Int32.ofNat N1)), .val (.ref b)] [(.ref b)])) _
    jvm_step X2.here [X2.here.top, hx, (hb hby d11_32), X2.method', Bd.returns, Value.isRef, FieldType.isReference]
    first | (intro acts; rw [hr _ acts rfl rfl rfl]) | rw [hr _ _ rfl rfl rfl]
    exact Steps.refl _
  · show Q11 Z N0L N1 f h0 n0 _ T2.heap _
    rw [e2]
    exact ⟨b, rfl, N2, K1.trans K2 (allS (Or.inr sb) all0), sb, V3⟩

theorem own_neA {Z : State} {h : Heap} {a x : Addr} {ty : FieldType} {N : Nat} {f : Nat → Value} {a0 : Array Value} {C : String} {k : Nat} (E : Exa Z h a C) (wi : (Jvm.Cond.instantiable C k).before a0 Z = true) (V : own_AF Z h x ty N f) : a ≠ x := by
  obtain ⟨-, c, A, -⟩ := V
  exact ne_arr E wi A

def own_LT (Z : State) (n0 : Nat) (h : Heap) (a w : Addr) (n : Nat) : Prop := Exa Z h a "com/example/syncline/syncline/client/bench/Latencies" ∧ Fld Z h a "com/example/syncline/syncline/client/bench/Latencies" "count" "I" (.int (Int32.ofNat n)) ∧ Fld Z h a "com/example/syncline/syncline/client/bench/Latencies" "nanos" "[J" (.ref w) ∧ n0 ≤ a ∧ n ≤ 4 ∧ ((n = 0 ∧ own_AF Z h w .long 0 (fun _ => .long 0)) ∨ (1 ≤ n ∧ n0 ≤ w ∧ ∃ f : Nat → Int64, own_AF Z h w .long 4 (fun j => .long (f j))))
theorem own_LT.arr {Z : State} {n0 : Nat} {h : Heap} {a w : Addr} {n : Nat} (X : own_LT Z n0 h a w n) : ∃ cl, Arr Z h w cl .long := by
  obtain ⟨-, -, -, -, -, q⟩ := X
  rcases q with ⟨-, -, cl, A, -⟩ | ⟨-, -, f, -, cl, A, -⟩
  · exact ⟨cl, A⟩
  · exact ⟨cl, A⟩
def own_AD (h h' : Heap) (a w : Addr) (n : Nat) : Prop := (n = 0 ∧ Keep h h' [a]) ∨ (1 ≤ n ∧ Keep h h' [a, w])
theorem own_AD.size {h h' : Heap} {a w : Addr} {n : Nat} (D : own_AD h h' a w n) : h.size ≤ h'.size := by rcases D with ⟨-, K⟩ | ⟨-, K⟩ <;> exact K.1
theorem own_AD.fld {Z : State} {n0 : Nat} {h h' : Heap} {a w x : Addr} {n k : Nat} {C f d : String} {v : Value} {a0 : Array Value} (D : own_AD h h' a w n) (X : own_LT Z n0 h a w n) {O : String} (wi : (Jvm.Cond.instantiable C k).before a0 Z = true) (E : Exa Z h x C) (ne : x ≠ a) (F : Fld Z h x O f d v) : Fld Z h' x O f d v := by
  obtain ⟨cl, A⟩ := X.arr
  rcases D with ⟨-, K⟩ | ⟨-, K⟩
  · exact F.keep K (ninS ne nin0)
  · exact F.keep K (ninS ne (ninS (ne_arr E wi A) nin0))
theorem own_AD.exa {Z : State} {h h' : Heap} {a w x : Addr} {n : Nat} {C : String} (D : own_AD h h' a w n) (E : Exa Z h x C) : Exa Z h' x C := by
  rcases D with ⟨-, K⟩ | ⟨-, K⟩ <;> exact E.keep K
theorem own_AD.lt {Z : State} {n0 : Nat} {h h' : Heap} {a w b wb : Addr} {n m k : Nat} {a0 : Array Value} (D : own_AD h h' a w n) (X : own_LT Z n0 h a w n) (Y : own_LT Z n0 h b wb m) (wi : (Jvm.Cond.instantiable "com/example/syncline/syncline/client/bench/Latencies" k).before a0 Z = true) (ne : b ≠ a) (sep : 1 ≤ n → 1 ≤ m → wb ≠ w) : own_LT Z n0 h' b wb m := by
  have Y1 := D.exa Y.1
  have Y2 := D.fld X wi Y.1 ne Y.2.1
  have Y3 := D.fld X wi Y.1 ne Y.2.2.1
  obtain ⟨cw, Aw⟩ := Y.arr
  have na : wb ≠ a := fun z => ne_arr X.1 wi (z ▸ Aw) rfl
  have Y6 := Y.2.2.2.2.2
  refine ⟨Y1, Y2, Y3, Y.2.2.2.1, Y.2.2.2.2.1, ?_⟩
  have nw : 1 ≤ n → wb ≠ w := fun hn => by
    rcases Y6 with ⟨-, -, cl, A, S, -⟩ | ⟨hm, -⟩
    · rcases X.2.2.2.2.2 with ⟨z, -⟩ | ⟨-, -, f, -, cl', A', S', -⟩
      · omega
      · intro z; subst z
        have := Option.some.inj (A.1.symm.trans A'.1)
        rw [this, S'] at S; omega
    · exact sep hn hm
  rcases D with ⟨-, K⟩ | ⟨hn, K⟩
  · rcases Y6 with ⟨m0, V⟩ | ⟨hm, gw, f, V⟩
    · exact Or.inl ⟨m0, V.keep K (ninS na nin0)⟩
    · exact Or.inr ⟨hm, gw, f, V.keep K (ninS na nin0)⟩
  · rcases Y6 with ⟨m0, V⟩ | ⟨hm, gw, f, V⟩
    · exact Or.inl ⟨m0, V.keep K (ninS na (ninS (nw hn) nin0))⟩
    · exact Or.inr ⟨hm, gw, f, V.keep K (ninS na (ninS (nw hn) nin0))⟩
theorem d9_0 : decode prog_26_method_3_code 0 = .ok (.aload_n 0, 1) := by decide +kernel
theorem d9_1 : decode prog_26_method_3_code 1 = .ok (.getfield 16, 3) := by decide +kernel
theorem d9_4 : decode prog_26_method_3_code 4 = .ok (.aload_n 0, 1) := by decide +kernel
theorem d9_5 : decode prog_26_method_3_code 5 = .ok (.getfield 13, 3) := by decide +kernel
theorem d9_8 : decode prog_26_method_3_code 8 = .ok (.arraylength, 1) := by decide +kernel
theorem d9_9 : decode prog_26_method_3_code 9 = .ok (.if_icmp .ne 25, 3) := by decide +kernel
theorem d9_12 : decode prog_26_method_3_code 12 = .ok (.aload_n 0, 1) := by decide +kernel
theorem d9_13 : decode prog_26_method_3_code 13 = .ok (.aload_n 0, 1) := by decide +kernel
theorem d9_14 : decode prog_26_method_3_code 14 = .ok (.getfield 13, 3) := by decide +kernel
theorem d9_17 : decode prog_26_method_3_code 17 = .ok (.iconst 4, 1) := by decide +kernel
theorem d9_18 : decode prog_26_method_3_code 18 = .ok (.iconst 2, 1) := by decide +kernel
theorem d9_19 : decode prog_26_method_3_code 19 = .ok (.aload_n 0, 1) := by decide +kernel
theorem d9_20 : decode prog_26_method_3_code 20 = .ok (.getfield 13, 3) := by decide +kernel
theorem d9_23 : decode prog_26_method_3_code 23 = .ok (.arraylength, 1) := by decide +kernel
theorem d9_24 : decode prog_26_method_3_code 24 = .ok (.imul, 1) := by decide +kernel
theorem d9_25 : decode prog_26_method_3_code 25 = .ok (.invokestatic 20, 3) := by decide +kernel
theorem d9_28 : decode prog_26_method_3_code 28 = .ok (.invokestatic 26, 3) := by decide +kernel
theorem d9_31 : decode prog_26_method_3_code 31 = .ok (.putfield 13, 3) := by decide +kernel
theorem pd_9_6 : parseMethodDescriptor "(II)I" = some ⟨[.int, .int], some .int⟩ := by decide +kernel
theorem pd_9_7 : parseMethodDescriptor "([JI)[J" = some ⟨[(.array .long), .int], some (.array .long)⟩ := by decide +kernel
set_option maxRecDepth 65536 in
set_option maxHeartbeats 40000000 in
theorem own_grow {p : Program} {l : Launch} {e : Env} {s : State} {m : MethodId} {args : Array Value} {below : List Frame} {meth : Method} {c : Code} {T0 : State} {locs : List Loc} {Z : State} {a0 : Array Value} {h0 : Heap} {n0 : Nat} (o0 : Addr) (s1 : Slot) (s2 : Slot) (w3 : Int32) (w5 : Addr) (cl_w5 : Cell)
    (X0 : Stand p l e ({ frames := 2, cells := 1, slots := 4, locals := 33 } : Room) s m args below meth c T0 locs 0 0) (hx : p.tables.exec = Jvm.exec) (hZ : Z.Warmed39 s.vm) (hw : ∀ d ∈ tables_1, d.before a0 Z = true) (hby : c.code = prog_26_method_3_code) (hml : c.maxLocals = 3) (hown : s.vm.findClass "com/example/syncline/syncline/client/bench/Latencies" = some m.cls) (e0 : T0.heap = h0) (N0 : Fr n0 locs) (Z0 : n0 ≤ h0.size) (F_count_o0 : Fld Z h0 o0 "com/example/syncline/syncline/client/bench/Latencies" "count" "I" (.int w3)) (F_nanos_o0 : Fld Z h0 o0 "com/example/syncline/syncline/client/bench/Latencies" "nanos" "[J" (.ref w5)) (Ar_w5 : Arr Z h0 w5 cl_w5 .long) (S_w5 : cl_w5.slots.size = (0 : Int32).toNatClampNeg) (N_w5 : ¬ (0 : Int32) < 0) (E_o0 : Exa Z h0 o0 "com/example/syncline/syncline/client/bench/Latencies") (g_o0 : n0 ≤ o0) (hc9 : w3 = (0 : Int32)) (V : own_AF Z h0 w5 .long 0 (fun _ => .long 0)) :
    ∃ (b10 : Addr) (T' : State) (h' : Heap) (locs' : List Loc), Stand p l e ({ frames := 2, cells := 1, slots := 4, locals := 33 } : Room) s m args below meth c T' locs' 1 4 ∧ T'.heap = h' ∧ Fr n0 locs' ∧ n0 ≤ h'.size ∧ (h0.size ≤ b10 ∧ n0 ≤ b10 ∧ Keep h0 h' [o0] ∧ Exa Z h' o0 "com/example/syncline/syncline/client/bench/Latencies" ∧ Fld Z h' o0 "com/example/syncline/syncline/client/bench/Latencies" "count" "I" (.int w3) ∧ Fld Z h' o0 "com/example/syncline/syncline/client/bench/Latencies" "nanos" "[J" (.ref b10) ∧ own_AF Z h' b10 .long 4 (fun _ => .long 0)) ∧
      ∀ target, Steps p.tables e below (T'.setTop (mkF m 34 #[.val (.ref o0), s1, s2] [])) target → Steps p.tables e below (T0.setTop (mkF m 0 #[.val (.ref o0), s1, s2] [])) target := by
  obtain ⟨T4, X4, e4, st4⟩ := getF X0 hx hZ hown (host := "") (Or.inl (hw _ (List.mem_of_getElem? (i := 37) rfl))) Via.refl e0 F_count_o0 (g := (mkF m 1 #[.val (.ref o0), s1, s2] [(.ref o0)])) rfl rfl (hb hby d9_1)
  obtain ⟨T6, X6, e6, st6⟩ := getF X4 hx hZ hown (host := "") (Or.inl (hw _ (List.mem_of_getElem? (i := 19) rfl))) Via.refl e4 F_nanos_o0 (g := (mkF m 5 #[.val (.ref o0), s1, s2] [(.ref o0), (.int w3)])) rfl rfl (hb hby d9_5)
  obtain ⟨T7, X7, e7, st7⟩ := getF X6 hx hZ hown (host := "") (Or.inl (hw _ (List.mem_of_getElem? (i := 19) rfl))) Via.refl e6 F_nanos_o0 (g := (mkF m 14 #[.val (.ref o0), s1, s2] [(.ref o0), (.ref o0)])) rfl rfl (hb hby d9_14)
  obtain ⟨T8, X8, e8, st8⟩ := getF X7 hx hZ hown (host := "") (Or.inl (hw _ (List.mem_of_getElem? (i := 19) rfl))) Via.refl e7 F_nanos_o0 (g := (mkF m 20 #[.val (.ref o0), s1, s2] [(.ref o0), (.int (2 : Int32)), (.int (4 : Int32)), (.ref w5), (.ref o0)])) rfl rfl (hb hby d9_20)
  obtain ⟨_, _, ⟨T9, L9, k9, n9⟩, -, X9, ⟨Lc9, hQ9, l9, y9, z9⟩, st9⟩ := Jvm.LawKit.callS X8 hx (y := (⟨"java/lang/Math", "max", "(II)I"⟩ : MethodName)) hown (mvT hZ (hw _ (List.mem_of_getElem? (i := 67) rfl))) (mvT hZ (hw _ (List.mem_of_getElem? (i := 68) rfl))) (mvT hZ (hw _ (List.mem_of_getElem? (i := 69) rfl))) (mvT hZ (hw _ (List.mem_of_getElem? (i := 70) rfl))) (by decide) (backOf (W := 2) (rm10 l Z a0 hw [] (4 : Int32) ((2 : Int32) * (0 : Int32)) h0 n0 Z0) hZ (hw _ (List.mem_of_getElem? (i := 70) rfl)) (hw _ (List.mem_of_getElem? (i := 69) rfl)) (by decide) (by decide)) (g := (mkF m 25 #[.val (.ref o0), s1, s2] [(.int ((2 : Int32) * (0 : Int32))), (.int (4 : Int32)), (.ref w5), (.ref o0)])) rfl (by rw [hml]; rfl) (argsL := [(.int (4 : Int32)), (.int ((2 : Int32) * (0 : Int32)))]) (rest := [(.ref w5), (.ref o0)]) (lenOf pd_9_6 rfl) rfl (by show 2 * 0 + _ ≤ _; exact Nat.le_of_eq rfl) (hb hby d9_25) (fun _ _ => ⟨rfl, e8, (Nat.le_of_ble_eq_true rfl), (Nat.le_of_ble_eq_true rfl)⟩)
  dsimp only [Pt.U, Pt.locs, Pt.cells, Pt.slots] at X9 l9 y9 z9 st9 hQ9
  subst l9 y9 z9
  rw [show own_f10 (4 : Int32) ((2 : Int32) * (0 : Int32)) = Int32.ofNat 4 by decide] at hQ9
  obtain ⟨rfl, N9q, q9⟩ := hQ9
  have K9 : Keep h0 T9.heap [] := by rw [q9]; exact Keep.refl _ _
  have N9 := Fr.app N0 N9q
  obtain ⟨_, _, ⟨T10, L10, k10, n10⟩, -, X10, ⟨Lc10, hQ10, l10, y10, z10⟩, st10⟩ := Jvm.LawKit.callS X9 hx (y := (⟨"java/util/Arrays", "copyOf", "([JI)[J"⟩ : MethodName)) hown (mvT hZ (hw _ (List.mem_of_getElem? (i := 71) rfl))) (mvT hZ (hw _ (List.mem_of_getElem? (i := 72) rfl))) (mvT hZ (hw _ (List.mem_of_getElem? (i := 73) rfl))) (mvT hZ (hw _ (List.mem_of_getElem? (i := 74) rfl))) (by decide) (backOf (W := 1) (rm11 l Z a0 hw [] w5 0 4 (by decide) (by decide) (fun _ => .long 0) T9.heap n0 (by rw [q9]; exact Z0) (by rw [q9]; exact V)) hZ (hw _ (List.mem_of_getElem? (i := 74) rfl)) (hw _ (List.mem_of_getElem? (i := 73) rfl)) (by decide) (by decide)) (g := (mkF m 28 #[.val (.ref o0), s1, s2] [(.int (Int32.ofNat 4)), (.ref w5), (.ref o0)])) rfl (by rw [hml]; rfl) (argsL := [(.ref w5), (.int (Int32.ofNat 4))]) (rest := [(.ref o0)]) (lenOf pd_9_7 rfl) rfl (by show 2 * 0 + _ ≤ _; exact Nat.le_of_eq rfl) (hb hby d9_28) (fun _ _ => ⟨rfl, rfl, (Nat.le_of_ble_eq_true rfl), (Nat.le_of_ble_eq_true rfl)⟩)
  dsimp only [Pt.U, Pt.locs, Pt.cells, Pt.slots] at X10 l10 y10 z10 st10 hQ10
  subst l10 y10 z10
  obtain ⟨b10, rfl, N10q, K10, sb10, V10⟩ := hQ10
  have KT : Keep h0 T10.heap [o0] := ((Keep.refl h0 [o0]).trans K9 all0).trans K10 all0
  have N10 := Fr.app N9 N10q
  obtain ⟨T11, h11, X11, e11, W11, st11⟩ := putF X10 hx hZ hown (host := "") (Or.inl (hw _ (List.mem_of_getElem? (i := 19) rfl))) Via.refl rfl ((F_nanos_o0.keep K9 nin0).keep K10 nin0) ((E_o0.keep K9).keep K10) (Or.inl (hw _ (List.mem_of_getElem? (i := 20) rfl))) (hw _ (List.mem_of_getElem? (i := 11) rfl)) (ty := (.array .long)) (by decide) rfl rfl (g := (mkF m 31 #[.val (.ref o0), s1, s2] [(.ref b10), (.ref o0)])) rfl rfl (hb hby d9_31)
  have Fw11 := ((F_nanos_o0.keep K9 nin0).keep K10 nin0).same W11
  have K11 : Keep h0 h11 [o0] := KT.wr W11 (Or.inl (List.mem_of_getElem? (i := 0) rfl))
  have N11 := Fr.snoc X11 N10 g_o0
  refine ⟨b10, T11, _, _, X11, e11, N11, (Nat.le_trans Z0 K11.1), ⟨Nat.le_trans (Nat.le_of_eq (by rw [q9])) sb10, Nat.le_trans Z0 (Nat.le_trans (Nat.le_of_eq (by rw [q9])) sb10), K11, ((E_o0.keep K9).keep K10).wr W11, ((F_count_o0.keep K9 nin0).keep K10 nin0).other W11 (Or.inr (slot_ne (Or.inl (hw _ (List.mem_of_getElem? (i := 38) rfl))) (Or.inl (hw _ (List.mem_of_getElem? (i := 20) rfl))) (by decide) (t := .int) (t' := (.array .long)) (by decide) (by decide))), Fw11, (V10.congr fun j _ => rfl).other W11 (own_neA ((E_o0.keep K9).keep K10) (hw _ (List.mem_of_getElem? (i := 11) rfl)) V10).symm⟩, fun target kt => ?_⟩
  show Steps p.tables e below (T0.setTop (mkF m 0 #[.val (.ref o0), s1, s2] [])) _
  refine XS.aloadN X0.here hx rfl (hb hby d9_0) rfl rfl ?_
  show Steps p.tables e below (T0.setTop (mkF m 1 #[.val (.ref o0), s1, s2] [(.ref o0)])) _
  refine st4 _ ?_
  show Steps p.tables e below (T4.setTop (mkF m 4 #[.val (.ref o0), s1, s2] [(.int w3)])) _
  refine XS.aloadN X4.here hx rfl (hb hby d9_4) rfl rfl ?_
  show Steps p.tables e below (T4.setTop (mkF m 5 #[.val (.ref o0), s1, s2] [(.ref o0), (.int w3)])) _
  refine st6 _ ?_
  show Steps p.tables e below (T6.setTop (mkF m 8 #[.val (.ref o0), s1, s2] [(.ref w5), (.int w3)])) _
  refine X6.arraylength hx (by rw [e6]; exact Ar_w5.1) (State.isArrayOf_alike hZ.alike Ar_w5.2.1) (g := (mkF m 8 #[.val (.ref o0), s1, s2] [(.ref w5), (.int w3)])) rfl rfl (hb hby d9_8) _ ?_
  rw [len_of S_w5 N_w5]
  show Steps p.tables e below (T6.setTop (mkF m 9 #[.val (.ref o0), s1, s2] [(.int (0 : Int32)), (.int w3)])) _
  refine XS.icmpNo X6.here hx rfl (hb hby d9_9) rfl (teq hc9).2 ?_
  show Steps p.tables e below (T6.setTop (mkF m 12 #[.val (.ref o0), s1, s2] [])) _
  refine XS.aloadN X6.here hx rfl (hb hby d9_12) rfl rfl ?_
  show Steps p.tables e below (T6.setTop (mkF m 13 #[.val (.ref o0), s1, s2] [(.ref o0)])) _
  refine XS.aloadN X6.here hx rfl (hb hby d9_13) rfl rfl ?_
  show Steps p.tables e below (T6.setTop (mkF m 14 #[.val (.ref o0), s1, s2] [(.ref o0), (.ref o0)])) _
  refine st7 _ ?_
  show Steps p.tables e below (T7.setTop (mkF m 17 #[.val (.ref o0), s1, s2] [(.ref w5), (.ref o0)])) _
  refine XS.iconst X7.here hx rfl (hb hby d9_17) ?_
  show Steps p.tables e below (T7.setTop (mkF m 18 #[.val (.ref o0), s1, s2] [(.int (4 : Int32)), (.ref w5), (.ref o0)])) _
  refine XS.iconst X7.here hx rfl (hb hby d9_18) ?_
  show Steps p.tables e below (T7.setTop (mkF m 19 #[.val (.ref o0), s1, s2] [(.int (2 : Int32)), (.int (4 : Int32)), (.ref w5), (.ref o0)])) _
  refine XS.aloadN X7.here hx rfl (hb hby d9_19) rfl rfl ?_
  show Steps p.tables e below (T7.setTop (mkF m 20 #[.val (.ref o0), s1, s2] [(.ref o0), (.int (2 : Int32)), (.int (4 : Int32)), (.ref w5), (.ref o0)])) _
  refine st8 _ ?_
  show Steps p.tables e below (T8.setTop (mkF m 23 #[.val (.ref o0), s1, s2] [(.ref w5), (.int (2 : Int32)), (.int (4 : Int32)), (.ref w5), (.ref o0)])) _
  refine X8.arraylength hx (by rw [e8]; exact Ar_w5.1) (State.isArrayOf_alike hZ.alike Ar_w5.2.1) (g := (mkF m 23 #[.val (.ref o0), s1, s2] [(.ref w5), (.int (2 : Int32)), (.int (4 : Int32)), (.ref w5), (.ref o0)])) rfl rfl (hb hby d9_23) _ ?_
  rw [len_of S_w5 N_w5]
  show Steps p.tables e below (T8.setTop (mkF m 24 #[.val (.ref o0), s1, s2] [(.int (0 : Int32)), (.int (2 : Int32)), (.int (4 : Int32)), (.ref w5), (.ref o0)])) _
  refine XS.imul X8.here hx rfl (hb hby d9_24) rfl ?_
  show Steps p.tables e below (T8.setTop (mkF m 25 #[.val (.ref o0), s1, s2] [(.int ((2 : Int32) * (0 : Int32))), (.int (4 : Int32)), (.ref w5), (.ref o0)])) _
  refine st9 _ ?_
  show Steps p.tables e below (T9.setTop (mkF m 28 #[.val (.ref o0), s1, s2] [(.int (Int32.ofNat 4)), (.ref w5), (.ref o0)])) _
  refine st10 _ ?_
  show Steps p.tables e below (T10.setTop (mkF m 31 #[.val (.ref o0), s1, s2] [(.ref b10), (.ref o0)])) _
  refine st11 _ ?_
  exact kt
set_option maxRecDepth 65536 in
set_option maxHeartbeats 40000000 in
theorem own_keep9 {p : Program} {l : Launch} {e : Env} {R : Room} {s : State} {m : MethodId} {args : Array Value} {below : List Frame} {meth : Method} {c : Code} {T0 : State} {locs : List Loc} {cells slots : Nat} {Z : State} {a0 : Array Value} {h0 : Heap} (o0 : Addr) (s1 : Slot) (s2 : Slot) (w3 : Int32) (w5 : Addr) (cl_w5 : Cell) (z_w5 : Int32)
    (X0 : Stand p l e R s m args below meth c T0 locs cells slots) (hx : p.tables.exec = Jvm.exec) (hZ : Z.Warmed39 s.vm) (hw : ∀ d ∈ tables_1, d.before a0 Z = true) (hby : c.code = prog_26_method_3_code) (hml : c.maxLocals = 3) (hown : s.vm.findClass "com/example/syncline/syncline/client/bench/Latencies" = some m.cls) (e0 : T0.heap = h0) (F_count_o0 : Fld Z h0 o0 "com/example/syncline/syncline/client/bench/Latencies" "count" "I" (.int w3)) (F_nanos_o0 : Fld Z h0 o0 "com/example/syncline/syncline/client/bench/Latencies" "nanos" "[J" (.ref w5)) (Ar_w5 : Arr Z h0 w5 cl_w5 .long) (S_w5 : cl_w5.slots.size = z_w5.toNatClampNeg) (N_w5 : ¬ z_w5 < 0) (hc9 : ¬ (w3 = z_w5)) :
    ∃ (T' : State), Stand p l e R s m args below meth c T' locs cells slots ∧ T'.heap = h0 ∧
      ∀ target, Steps p.tables e below (T'.setTop (mkF m 34 #[.val (.ref o0), s1, s2] [])) target → Steps p.tables e below (T0.setTop (mkF m 0 #[.val (.ref o0), s1, s2] [])) target := by
  obtain ⟨T4, X4, e4, st4⟩ := getF X0 hx hZ hown (host := "") (Or.inl (hw _ (List.mem_of_getElem? (i := 37) rfl))) Via.refl e0 F_count_o0 (g := (mkF m 1 #[.val (.ref o0), s1, s2] [(.ref o0)])) rfl rfl (hb hby d9_1)
  obtain ⟨T6, X6, e6, st6⟩ := getF X4 hx hZ hown (host := "") (Or.inl (hw _ (List.mem_of_getElem? (i := 19) rfl))) Via.refl e4 F_nanos_o0 (g := (mkF m 5 #[.val (.ref o0), s1, s2] [(.ref o0), (.int w3)])) rfl rfl (hb hby d9_5)
  refine ⟨T6, X6, e6, fun target kt => ?_⟩
  show Steps p.tables e below (T0.setTop (mkF m 0 #[.val (.ref o0), s1, s2] [])) _
  refine XS.aloadN X0.here hx rfl (hb hby d9_0) rfl rfl ?_
  show Steps p.tables e below (T0.setTop (mkF m 1 #[.val (.ref o0), s1, s2] [(.ref o0)])) _
  refine st4 _ ?_
  show Steps p.tables e below (T4.setTop (mkF m 4 #[.val (.ref o0), s1, s2] [(.int w3)])) _
  refine XS.aloadN X4.here hx rfl (hb hby d9_4) rfl rfl ?_
  show Steps p.tables e below (T4.setTop (mkF m 5 #[.val (.ref o0), s1, s2] [(.ref o0), (.int w3)])) _
  refine st6 _ ?_
  show Steps p.tables e below (T6.setTop (mkF m 8 #[.val (.ref o0), s1, s2] [(.ref w5), (.int w3)])) _
  refine X6.arraylength hx (by rw [e6]; exact Ar_w5.1) (State.isArrayOf_alike hZ.alike Ar_w5.2.1) (g := (mkF m 8 #[.val (.ref o0), s1, s2] [(.ref w5), (.int w3)])) rfl rfl (hb hby d9_8) _ ?_
  rw [len_of S_w5 N_w5]
  show Steps p.tables e below (T6.setTop (mkF m 9 #[.val (.ref o0), s1, s2] [(.int z_w5), (.int w3)])) _
  refine XS.icmpYes X6.here hx rfl (pc0 := 9) (pc' := 34) rfl (hb hby d9_9) rfl (feq hc9).2 (by decide) (by decide) ?_
  exact kt
theorem d9_34 : decode prog_26_method_3_code 34 = .ok (.aload_n 0, 1) := by decide +kernel
theorem d9_35 : decode prog_26_method_3_code 35 = .ok (.getfield 13, 3) := by decide +kernel
theorem d9_38 : decode prog_26_method_3_code 38 = .ok (.aload_n 0, 1) := by decide +kernel
theorem d9_39 : decode prog_26_method_3_code 39 = .ok (.dup, 1) := by decide +kernel
theorem d9_40 : decode prog_26_method_3_code 40 = .ok (.getfield 16, 3) := by decide +kernel
theorem d9_43 : decode prog_26_method_3_code 43 = .ok (.dup_x1, 1) := by decide +kernel
theorem d9_44 : decode prog_26_method_3_code 44 = .ok (.iconst 1, 1) := by decide +kernel
theorem d9_45 : decode prog_26_method_3_code 45 = .ok (.iadd, 1) := by decide +kernel
theorem d9_46 : decode prog_26_method_3_code 46 = .ok (.putfield 16, 3) := by decide +kernel
theorem d9_49 : decode prog_26_method_3_code 49 = .ok (.lload_n 1, 1) := by decide +kernel
theorem d9_50 : decode prog_26_method_3_code 50 = .ok (.lastore, 1) := by decide +kernel
set_option maxRecDepth 65536 in
set_option maxHeartbeats 40000000 in
theorem tn9_34_51 {p : Program} {l : Launch} {e : Env} {R : Room} {s : State} {m : MethodId} {args : Array Value} {below : List Frame} {meth : Method} {c : Code} {T0 : State} {locs : List Loc} {cells slots : Nat} {Z : State} {a0 : Array Value} {h0 : Heap} {n0 : Nat} (o0 : Addr) (j1 : Int64) (w3 : Addr) (w5 : Int32) (cl_w3 : Cell) (f : Nat → Int64)
    (X0 : Stand p l e R s m args below meth c T0 locs cells slots) (hx : p.tables.exec = Jvm.exec) (hZ : Z.Warmed39 s.vm) (hw : ∀ d ∈ tables_1, d.before a0 Z = true) (hby : c.code = prog_26_method_3_code) (hml : c.maxLocals = 3) (hown : s.vm.findClass "com/example/syncline/syncline/client/bench/Latencies" = some m.cls) (e0 : T0.heap = h0) (N0 : Fr n0 locs) (Z0 : n0 ≤ h0.size) (F_nanos_o0 : Fld Z h0 o0 "com/example/syncline/syncline/client/bench/Latencies" "nanos" "[J" (.ref w3)) (F_count_o0 : Fld Z h0 o0 "com/example/syncline/syncline/client/bench/Latencies" "count" "I" (.int w5)) (E_o0 : Exa Z h0 o0 "com/example/syncline/syncline/client/bench/Latencies") (g_o0 : n0 ≤ o0) (Ar_w3 : Arr Z h0 w3 cl_w3 .long) (hin50 : ¬ (w5 < 0 ∨ cl_w3.slots.size ≤ (w5).toNatClampNeg)) (g_w3 : n0 ≤ w3) (V : own_AF Z h0 w3 .long 4 (fun j => .long (f j))) (now : o0 ≠ w3) (hj : (w5).toNatClampNeg < 4) :
    ∃ (T' : State) (h' : Heap) (locs' : List Loc), Stand p l e R s m args below meth c T' locs' cells slots ∧ T'.heap = h' ∧ Fr n0 locs' ∧ n0 ≤ h'.size ∧ (Keep h0 h' [o0, w3] ∧ Exa Z h' o0 "com/example/syncline/syncline/client/bench/Latencies" ∧ Fld Z h' o0 "com/example/syncline/syncline/client/bench/Latencies" "count" "I" (.int (w5 + (1 : Int32))) ∧ Fld Z h' o0 "com/example/syncline/syncline/client/bench/Latencies" "nanos" "[J" (.ref w3) ∧ ∃ f' : Nat → Int64, own_AF Z h' w3 .long 4 (fun j => .long (f' j))) ∧
      ∀ target, Steps p.tables e below (T'.setTop (mkF m 51 #[.val (.ref o0), .val (.long j1), .second] [])) target → Steps p.tables e below (T0.setTop (mkF m 34 #[.val (.ref o0), .val (.long j1), .second] [])) target := by
  obtain ⟨T4, X4, e4, st4⟩ := getF X0 hx hZ hown (host := "") (Or.inl (hw _ (List.mem_of_getElem? (i := 19) rfl))) Via.refl e0 F_nanos_o0 (g := (mkF m 35 #[.val (.ref o0), .val (.long j1), .second] [(.ref o0)])) rfl rfl (hb hby d9_35)
  obtain ⟨T6, X6, e6, st6⟩ := getF X4 hx hZ hown (host := "") (Or.inl (hw _ (List.mem_of_getElem? (i := 37) rfl))) Via.refl e4 F_count_o0 (g := (mkF m 40 #[.val (.ref o0), .val (.long j1), .second] [(.ref o0), (.ref o0), (.ref w3)])) rfl rfl (hb hby d9_40)
  obtain ⟨T7, h7, X7, e7, W7, st7⟩ := putF X6 hx hZ hown (host := "") (Or.inl (hw _ (List.mem_of_getElem? (i := 37) rfl))) Via.refl e6 F_count_o0 E_o0 (Or.inl (hw _ (List.mem_of_getElem? (i := 38) rfl))) (hw _ (List.mem_of_getElem? (i := 11) rfl)) (ty := .int) (by decide) rfl rfl (g := (mkF m 46 #[.val (.ref o0), .val (.long j1), .second] [(.int (w5 + (1 : Int32))), (.ref o0), (.int w5), (.ref w3)])) rfl rfl (hb hby d9_46)
  have Fw7 := F_count_o0.same W7
  have K7 : Keep h0 h7 [o0, w3] := (Keep.refl h0 [o0, w3]).wr W7 (Or.inl (List.mem_of_getElem? (i := 0) rfl))
  have N7 := Fr.snoc X7 N0 g_o0
  obtain ⟨T8, h8, X8, e8, W8, st8⟩ := stJ X7 hx hZ e7 (Ar_w3.other W7 now.symm) (j := w5) hin50 (g := (mkF m 50 #[.val (.ref o0), .val (.long j1), .second] [(.long j1), (.int w5), (.ref w3)])) rfl rfl (hb hby d9_50)
  have N8 := Fr.snoc X8 N7 g_w3
  have K8 : Keep h0 h8 [o0, w3] := K7.wr W8 (Or.inl (List.mem_of_getElem? (i := 1) rfl))
  refine ⟨T8, _, _, X8, e8, N8, (Nat.le_trans Z0 K8.1), ⟨K8, (E_o0.wr W7).wr W8, Fw7.other W8 (Or.inl now), (F_nanos_o0.other W7 (Or.inr (slot_ne (Or.inl (hw _ (List.mem_of_getElem? (i := 20) rfl))) (Or.inl (hw _ (List.mem_of_getElem? (i := 38) rfl))) (by decide) (t := (.array .long)) (t' := .int) (by decide) (by decide)))).other W8 (Or.inl now), _, ((V.other W7 now.symm).set W8 hj rfl).congr (g := fun j => .long (own_upd f (w5).toNatClampNeg j1 j)) fun j _ => by unfold own_upd; split <;> rfl⟩, fun target kt => ?_⟩
  show Steps p.tables e below (T0.setTop (mkF m 34 #[.val (.ref o0), .val (.long j1), .second] [])) _
  refine XS.aloadN X0.here hx rfl (hb hby d9_34) rfl rfl ?_
  show Steps p.tables e below (T0.setTop (mkF m 35 #[.val (.ref o0), .val (.long j1), .second] [(.ref o0)])) _
  refine st4 _ ?_
  show Steps p.tables e below (T4.setTop (mkF m 38 #[.val (.ref o0), .val (.long j1), .second] [(.ref w3)])) _
  refine XS.aloadN X4.here hx rfl (hb hby d9_38) rfl rfl ?_
  show Steps p.tables e below (T4.setTop (mkF m 39 #[.val (.ref o0), .val (.long j1), .second] [(.ref o0), (.ref w3)])) _
  refine XS.dup X4.here hx rfl (hb hby d9_39) rfl rfl ?_
  show Steps p.tables e below (T4.setTop (mkF m 40 #[.val (.ref o0), .val (.long j1), .second] [(.ref o0), (.ref o0), (.ref w3)])) _
  refine st6 _ ?_
  show Steps p.tables e below (T6.setTop (mkF m 43 #[.val (.ref o0), .val (.long j1), .second] [(.int w5), (.ref o0), (.ref w3)])) _
  refine XS.dupX1 X6.here hx rfl (hb hby d9_43) rfl rfl rfl ?_
  show Steps p.tables e below (T6.setTop (mkF m 44 #[.val (.ref o0), .val (.long j1), .second] [(.int w5), (.ref o0), (.int w5), (.ref w3)])) _
  refine XS.iconst X6.here hx rfl (hb hby d9_44) ?_
  show Steps p.tables e below (T6.setTop (mkF m 45 #[.val (.ref o0), .val (.long j1), .second] [(.int (1 : Int32)), (.int w5), (.ref o0), (.int w5), (.ref w3)])) _
  refine XS.iadd X6.here hx rfl (hb hby d9_45) rfl ?_
  show Steps p.tables e below (T6.setTop (mkF m 46 #[.val (.ref o0), .val (.long j1), .second] [(.int (w5 + (1 : Int32))), (.ref o0), (.int w5), (.ref w3)])) _
  refine st7 _ ?_
  show Steps p.tables e below (T7.setTop (mkF m 49 #[.val (.ref o0), .val (.long j1), .second] [(.int w5), (.ref w3)])) _
  refine XS.lloadN X7.here hx rfl (hb hby d9_49) rfl ?_
  show Steps p.tables e below (T7.setTop (mkF m 50 #[.val (.ref o0), .val (.long j1), .second] [(.long j1), (.int w5), (.ref w3)])) _
  refine st8 _ ?_
  exact kt
theorem d9_51 : decode prog_26_method_3_code 51 = .ok (.return_, 1) := by decide +kernel
theorem pn_9 : plainName "com/example/syncline/syncline/client/bench/Latencies" = true := by first | (simp [plainName, overriddenIn]; done) | decide +kernel
theorem ef_9 (m : MethodId) (x0 : Addr) (x1 : Int64) : entryFrame m #[(.ref x0), (.long x1)] 3 = mkF m 0 #[.val (.ref x0), .val (.long x1), .second] [] := by first | (simp [entryFrame, mkF, argsToLocals, Value.category]; done) | rfl


def Q9 (Z : State) (n0 : Nat) (a w : Addr) (n : Nat) (h0 : Heap) (v : Option Value) (h : Heap) (Lc : List Loc) : Prop := v = none ∧ Fr n0 Lc ∧ ∃ w', own_LT Z n0 h a w' (n + 1) ∧ own_AD h0 h a w n ∧ (n = 0 → h0.size ≤ w') ∧ (1 ≤ n → w' = w)
set_option maxRecDepth 65536 in
set_option maxHeartbeats 40000000 in
theorem rm9 (l : Launch) (Z : State) (a0 : Array Value) (hw : ∀ d ∈ tables_1, d.before a0 Z = true) (ws : List Jvm.Cond) (a1 w : Addr) (n : Nat) (q2 : Int64) (h0 : Heap) (n0 : Nat) (Z0 : n0 ≤ h0.size) (X : own_LT Z n0 h0 a1 w n) (hn : n < 4) :
    MetFree l (⟨"com/example/syncline/syncline/client/bench/Latencies", "add", "(J)V"⟩ : MethodName) (head1 (Jvm.Cond.code (⟨"com/example/syncline/syncline/client/bench/Latencies", "add", "(J)V"⟩ : MethodName) prog_26_method_3_code 3 none :: ws) ({ frames := 2, cells := 1, slots := 4, locals := 33 } : Room)) (fun a U => a = #[(.ref a1), (.long q2)] ∧ Z.Warmed39 U.vm ∧ U.heap = h0) (fun _ _ _ _ _ => True) (fun _ U o U' => ∃ v L, o = .returned v ∧ Q9 Z n0 a1 w n h0 v U'.heap L ∧ FrameEnd U o U' L ({ frames := 2, cells := 1, slots := 4, locals := 33 } : Room).cells ({ frames := 2, cells := 1, slots := 4, locals := 33 } : Room).slots) := by
  refine MetFree.of_bodySF (plainFor_of_name pn_9) hisR ?_
  intro p e s m args below meth c s₁ Bd hml0 hP hK
  obtain ⟨rfl, hZ, hh⟩ := hP
  have hx := Bd.exec
  have hby := Bd.bytes
  have hml : c.maxLocals = 3 := hml0
  have hown : s.vm.findClass "com/example/syncline/syncline/client/bench/Latencies" = some m.cls := findClass_of_methodNamed Bd.named
  have X0 : Stand p l e ({ frames := 2, cells := 1, slots := 4, locals := 33 } : Room) s m #[(.ref a1), (.long q2)] below meth c s₁ [] 0 0 := Stand.of_body Bd
  have e0 : s₁.heap = h0 := by rw [← hh, Bd.state]; rfl
  have N0 := Fr.nil n0
  have pre0 : ∀ t, Steps p.tables e below (s₁.setTop (mkF m 0 #[.val (.ref a1), .val (.long q2), .second] [])) t → Steps p.tables e below (s₁.setTop (entryFrame m #[(.ref a1), (.long q2)] 3)) t := fun t k => castTop (ef_9 m a1 q2) k
  obtain ⟨E, Fc, Fn, ga, h4, alt⟩ := X
  rcases alt with ⟨rfl, V⟩ | ⟨h1n, gw, f, V⟩
  · obtain ⟨-, cl0, Ar0, S0, -, -⟩ := id V
    obtain ⟨b, T1, h1, l1, X1, e1, N1, Z1, ⟨sb, gw, K1, E1, Fc1, Fn1, V1⟩, st1⟩ := own_grow a1 (.val (.long q2)) .second (Int32.ofNat 0) w cl0 X0 hx hZ hw hby hml hown e0 N0 Z0 Fc Fn Ar0 S0 (by decide) E ga rfl V
    obtain ⟨-, cl, Ar, S, -, -⟩ := id V1
    have nw : a1 ≠ b := ne_arr E1 (hw _ (List.mem_of_getElem? (i := 11) rfl)) Ar
    obtain ⟨T2, h2, l2, X2, e2, N2, Z2, ⟨K2, E2, Fc2, Fn2, f2, V2⟩, st2⟩ := tn9_34_51 a1 q2 b (Int32.ofNat 0) cl _ X1 hx hZ hw hby hml hown e1 N1 Z1 Fn1 Fc1 E1 ga Ar (own_inb S (by omega) (by decide)) gw (V1 : own_AF Z h1 b .long 4 (fun j => .long ((fun _ => 0) j))) nw (by rw [own_nc (by omega)]; omega)
    rw [own_add1] at Fc2
    obtain ⟨fs, hr, hrun, hended, hW, hsame⟩ := X2.leave (v := none) (fun _ => rfl)
    refine ⟨_, _, pre0 _ ?_, hrun, hended, _, _, rfl, ?_, ⟨_, rfl⟩, hW, hsame.mono (by decide) (by decide)⟩
    · exact st1 _ (st2 _ (X2.returnOut hx Bd.returns (hb hby d9_51) hr))
    · show Q9 Z n0 a1 w 0 h0 _ T2.heap _
      rw [e2]
      exact ⟨rfl, N2, b, ⟨E2, Fc2, Fn2, ga, by decide, Or.inr ⟨by decide, gw, f2, V2⟩⟩, Or.inl ⟨rfl, K1.trans K2 (allS (Or.inl (List.mem_singleton.mpr rfl)) (allS (Or.inr sb) all0))⟩, fun _ => sb, fun z => absurd z (by decide)⟩
  · obtain ⟨-, cl, Ar, S, -, -⟩ := id V
    have nw : a1 ≠ w := ne_arr E (hw _ (List.mem_of_getElem? (i := 11) rfl)) Ar
    obtain ⟨T1, X1, e1, st1⟩ := own_keep9 a1 (.val (.long q2)) .second (Int32.ofNat n) w cl (Int32.ofNat 4) X0 hx hZ hw hby hml hown e0 Fc Fn Ar S (by decide) (fun z => by have := congrArg Int32.toInt z; rw [own_ti (by omega), own_ti (by decide)] at this; omega)
    have E1 := E
    have Fc1 := Fc
    have Fn1 := Fn
    have N1 := N0
    have Z1 := Z0
    obtain ⟨T2, h2, l2, X2, e2, N2, Z2, ⟨K2, E2, Fc2, Fn2, f2, V2⟩, st2⟩ := tn9_34_51 a1 q2 w (Int32.ofNat n) cl _ X1 hx hZ hw hby hml hown e1 N1 Z1 Fn1 Fc1 E1 ga Ar (own_inb S (by omega) (by decide)) gw V nw (by rw [own_nc (by omega)]; omega)
    rw [own_add1] at Fc2
    obtain ⟨fs, hr, hrun, hended, hW, hsame⟩ := X2.leave (v := none) (fun _ => rfl)
    refine ⟨_, _, pre0 _ ?_, hrun, hended, _, _, rfl, ?_, ⟨_, rfl⟩, hW, hsame.mono (by decide) (by decide)⟩
    · exact st1 _ (st2 _ (X2.returnOut hx Bd.returns (hb hby d9_51) hr))
    · show Q9 Z n0 a1 w n h0 _ T2.heap _
      rw [e2]
      exact ⟨rfl, N2, w, ⟨E2, Fc2, Fn2, ga, by omega, Or.inr ⟨by omega, gw, f2, V2⟩⟩, Or.inr ⟨h1n, K2⟩, fun z => by omega, fun _ => rfl⟩
theorem d8_0 : decode prog_25_method_3_code 0 = .ok (.aload_n 0, 1) := by decide +kernel
theorem d8_1 : decode prog_25_method_3_code 1 = .ok (.getfield 10, 3) := by decide +kernel
theorem d8_4 : decode prog_25_method_3_code 4 = .ok (.lload_n 1, 1) := by decide +kernel
theorem d8_5 : decode prog_25_method_3_code 5 = .ok (.invokevirtual 30, 3) := by decide +kernel
theorem d8_8 : decode prog_25_method_3_code 8 = .ok (.return_, 1) := by decide +kernel
theorem pn_8 : plainName "com/example/syncline/syncline/client/bench/KvWorkload$Tally" = true := by first | (simp [plainName, overriddenIn]; done) | decide +kernel
theorem pd_8_5 : parseMethodDescriptor "(J)V" = some ⟨[.long], none⟩ := by decide +kernel
theorem ef_8 (m : MethodId) (x0 : Addr) (x1 : Int64) : entryFrame m #[(.ref x0), (.long x1)] 3 = mkF m 0 #[.val (.ref x0), .val (.long x1), .second] [] := by first | (simp [entryFrame, mkF, argsToLocals, Value.category]; done) | rfl
def Q8 (Z : State) (n0 : Nat) (a w : Addr) (n : Nat) (h0 : Heap) (v : Option Value) (h : Heap) (Lc : List Loc) : Prop := v = none ∧ Fr n0 Lc ∧ ∃ w', own_LT Z n0 h a w' (n + 1) ∧ own_AD h0 h a w n ∧ (n = 0 → h0.size ≤ w') ∧ (1 ≤ n → w' = w)
set_option maxRecDepth 65536 in
set_option maxHeartbeats 40000000 in
theorem rm8 (l : Launch) (Z : State) (a0 : Array Value) (hw : ∀ d ∈ tables_1, d.before a0 Z = true) (ws : List Jvm.Cond) (a1 : Addr) (q2 : Int64) (w3 w : Addr) (n : Nat) (h0 : Heap) (n0 : Nat) (Z0 : n0 ≤ h0.size) (F_updateCommits_a1 : Fld Z h0 a1 "com/example/syncline/syncline/client/bench/KvWorkload$Tally" "updateCommits" "Lcom/example/syncline/syncline/client/bench/Latencies;" (.ref w3)) (X : own_LT Z n0 h0 w3 w n) (hn : n < 4) :
    MetFree l (⟨"com/example/syncline/syncline/client/bench/KvWorkload$Tally", "addCommittedUpdate", "(J)V"⟩ : MethodName) (head1 (Jvm.Cond.code (⟨"com/example/syncline/syncline/client/bench/KvWorkload$Tally", "addCommittedUpdate", "(J)V"⟩ : MethodName) prog_25_method_3_code 3 none :: ws) ({ frames := 3, cells := 1, slots := 4, locals := 47 } : Room)) (fun a U => a = #[(.ref a1), (.long q2)] ∧ Z.Warmed39 U.vm ∧ U.heap = h0) (fun _ _ _ _ _ => True) (fun _ U o U' => ∃ v L, o = .returned v ∧ Q8 Z n0 w3 w n h0 v U'.heap L ∧ FrameEnd U o U' L ({ frames := 3, cells := 1, slots := 4, locals := 47 } : Room).cells ({ frames := 3, cells := 1, slots := 4, locals := 47 } : Room).slots) := by
  refine MetFree.of_bodySF (plainFor_of_name pn_8) hisR ?_
  intro p e s m args below meth c s₁ Bd hml0 hP hK
  obtain ⟨rfl, hZ, hh⟩ := hP
  have hx := Bd.exec
  have hby := Bd.bytes
  have hml : c.maxLocals = 3 := hml0
  have hown : s.vm.findClass "com/example/syncline/syncline/client/bench/KvWorkload$Tally" = some m.cls := findClass_of_methodNamed Bd.named
  have hnm := (name_of_methodNamed Bd.named Bd.method).1
  have X0 : Stand p l e ({ frames := 3, cells := 1, slots := 4, locals := 47 } : Room) s m #[(.ref a1), (.long q2)] below meth c s₁ [] 0 0 := Stand.of_body Bd
  have e0 : s₁.heap = h0 := by rw [← hh, Bd.state]; rfl
  have N0 := Fr.nil n0
  have pre0 : ∀ t, Steps p.tables e below (s₁.setTop (mkF m 0 #[.val (.ref a1), .val (.long q2), .second] [])) t → Steps p.tables e below (s₁.setTop (entryFrame m #[(.ref a1), (.long q2)] 3)) t := fun t k => castTop (ef_8 m a1 q2) k
  obtain ⟨T4, X4, e4, st4⟩ := getF X0 hx hZ hown (host := "") (Or.inl (hw _ (List.mem_of_getElem? (i := 21) rfl))) Via.refl e0 F_updateCommits_a1 (g := (mkF m 1 #[.val (.ref a1), .val (.long q2), .second] [(.ref a1)])) rfl rfl (hb hby d8_1)
  obtain ⟨cq5, kq5, q5a, q5b, q5c⟩ := isOf hZ e4 X.1
  obtain ⟨_, _, ⟨T5, L5, k5, n5⟩, -, X5, ⟨Lc5, hQ5, l5, y5, z5⟩, st5⟩ := X4.virtualBack hx (y := (⟨"com/example/syncline/syncline/client/bench/Latencies", "add", "(J)V"⟩ : MethodName)) (z := (⟨"com/example/syncline/syncline/client/bench/Latencies", "add", "(J)V"⟩ : MethodName)) hown (mvT hZ (hw _ (List.mem_of_getElem? (i := 62) rfl))) (mvT hZ (hw _ (List.mem_of_getElem? (i := 63) rfl))) (notFace_of_selects (args := #[]) (mvT hZ (hw _ (List.mem_of_getElem? (i := 65) rfl)))) (mvT hZ (hw _ (List.mem_of_getElem? (i := 65) rfl))) (mvT hZ (hw _ (List.mem_of_getElem? (i := 64) rfl))) (by decide) (backOf (W := 0) (rm9 l Z a0 hw [] w3 w n q2 h0 n0 Z0 X hn) hZ (hw _ (List.mem_of_getElem? (i := 66) rfl)) (hw _ (List.mem_of_getElem? (i := 12) rfl)) (by decide) (by decide)) q5a q5c (g := (mkF m 5 #[.val (.ref a1), .val (.long q2), .second] [(.long q2), (.ref w3)])) rfl (by rw [hml]; rfl) (Steps.refl _) (argsL := [(.long q2)]) (rest := []) (lenOf pd_8_5 rfl) rfl (by show 2 * 0 + _ ≤ _; exact Nat.le_of_eq rfl) (hb hby d8_5) (fun _ _ => ⟨rfl, e4, (by decide : 0 + 1 ≤ _), (by decide : 0 + 4 ≤ _)⟩)
  dsimp only [Pt.U, Pt.locs, Pt.cells, Pt.slots] at X5 l5 y5 z5 st5 hQ5
  subst l5 y5 z5
  obtain ⟨rfl, N5q, q5⟩ := hQ5
  have N5 := Fr.app N0 N5q
  obtain ⟨fs, hr, hrun, hended, hW, hsame⟩ := X5.leave (v := none) (fun _ => rfl)
  refine ⟨_, _, pre0 _ ?_, hrun, hended, _, _, rfl, ?_, ⟨_, rfl⟩, hW, hsame.mono (by decide) (by decide)⟩
  · show Steps p.tables e below (s₁.setTop (mkF m 0 #[.val (.ref a1), .val (.long q2), .second] [])) _
    refine XS.aloadN X0.here hx rfl (hb hby d8_0) rfl rfl ?_
    show Steps p.tables e below (s₁.setTop (mkF m 1 #[.val (.ref a1), .val (.long q2), .second] [(.ref a1)])) _
    refine st4 _ ?_
    show Steps p.tables e below (T4.setTop (mkF m 4 #[.val (.ref a1), .val (.long q2), .second] [(.ref w3)])) _
    refine XS.lloadN X4.here hx rfl (hb hby d8_4) rfl ?_
    show Steps p.tables e below (T4.setTop (mkF m 5 #[.val (.ref a1), .val (.long q2), .second] [(.long q2), (.ref w3)])) _
    refine st5.trans ?_
    show Steps p.tables e below (T5.setTop (mkF m 8 #[.val (.ref a1), .val (.long q2), .second] [])) _
    exact X5.returnOut hx Bd.returns (hb hby d8_8) hr
  · show Q8 Z n0 w3 w n h0 _ T5.heap _
    exact ⟨rfl, N5, q5⟩
theorem d5_0 : decode prog_26_method_2_code 0 = .ok (.aload_n 0, 1) := by decide +kernel
theorem d5_1 : decode prog_26_method_2_code 1 = .ok (.getfield 16, 3) := by decide +kernel
theorem d5_4 : decode prog_26_method_2_code 4 = .ok (.ireturn, 1) := by decide +kernel
theorem pn_5 : plainName "com/example/syncline/syncline/client/bench/Latencies" = true := by first | (simp [plainName, overriddenIn]; done) | decide +kernel
theorem ef_5 (m : MethodId) (x0 : Addr) : entryFrame m #[(.ref x0)] 1 = mkF m 0 #[.val (.ref x0)] [] := by first | (simp [entryFrame, mkF, argsToLocals, Value.category]; done) | rfl
def Q5 (Z : State) (a1 : Addr) (w2 : Int32) (h0 : Heap) (n0 : Nat) (v : Option Value) (h : Heap) (L : List Loc) : Prop := v = some (.int w2) ∧ Fr n0 L ∧ h = h0
set_option maxRecDepth 65536 in
set_option maxHeartbeats 40000000 in
theorem rm5 (l : Launch) (Z : State) (a0 : Array Value) (hw : ∀ d ∈ tables_1, d.before a0 Z = true) (ws : List Jvm.Cond) (a1 : Addr) (w2 : Int32) (h0 : Heap) (n0 : Nat) (Z0 : n0 ≤ h0.size) (F_count_a1 : Fld Z h0 a1 "com/example/syncline/syncline/client/bench/Latencies" "count" "I" (.int w2)) :
    MetFree l (⟨"com/example/syncline/syncline/client/bench/Latencies", "count", "()I"⟩ : MethodName) (head1 (Jvm.Cond.code (⟨"com/example/syncline/syncline/client/bench/Latencies", "count", "()I"⟩ : MethodName) prog_26_method_2_code 1 (some .int) :: ws) ({ frames := 0, cells := 0, slots := 0, locals := 0 } : Room)) (fun a U => a = #[(.ref a1)] ∧ Z.Warmed39 U.vm ∧ U.heap = h0) (fun _ _ _ _ _ => True) (fun _ U o U' => ∃ v L, o = .returned v ∧ Q5 Z a1 w2 h0 n0 v U'.heap L ∧ FrameEnd U o U' L ({ frames := 0, cells := 0, slots := 0, locals := 0 } : Room).cells ({ frames := 0, cells := 0, slots := 0, locals := 0 } : Room).slots) := by
  refine MetFree.of_bodySF (plainFor_of_name pn_5) hisR ?_
  intro p e s m args below meth c s₁ Bd hml0 hP hK
  obtain ⟨rfl, hZ, hh⟩ := hP
  have hx := Bd.exec
  have hby := Bd.bytes
  have hml : c.maxLocals = 1 := hml0
  have hown : s.vm.findClass "com/example/syncline/syncline/client/bench/Latencies" = some m.cls := findClass_of_methodNamed Bd.named
  have hnm := (name_of_methodNamed Bd.named Bd.method).1
  have X0 : Stand p l e ({ frames := 0, cells := 0, slots := 0, locals := 0 } : Room) s m #[(.ref a1)] below meth c s₁ [] 0 0 := Stand.of_body Bd
  have e0 : s₁.heap = h0 := by rw [← hh, Bd.state]; rfl
  have N0 := Fr.nil n0
  have pre0 : ∀ t, Steps p.tables e below (s₁.setTop (mkF m 0 #[.val (.ref a1)] [])) t → Steps p.tables e below (s₁.setTop (entryFrame m #[(.ref a1)] 1)) t := fun t k => castTop (ef_5 m a1) k
  obtain ⟨T3, X3, e3, st3⟩ := getF X0 hx hZ hown (host := "") (Or.inl (hw _ (List.mem_of_getElem? (i := 37) rfl))) Via.refl e0 F_count_a1 (g := (mkF m 1 #[.val (.ref a1)] [(.ref a1)])) rfl rfl (hb hby d5_1)
  obtain ⟨fs, hr, hrun, hended, hW, hsame⟩ := X3.leave (v := some (.int w2)) (fun h => by rw [Bd.returns] at h; cases h)
  refine ⟨_, _, pre0 _ ?_, hrun, hended, _, _, rfl, ?_, ⟨_, rfl⟩, hW, hsame.mono (by decide) (by decide)⟩
  · show Steps p.tables e below (s₁.setTop (mkF m 0 #[.val (.ref a1)] [])) _
    refine XS.aloadN X0.here hx rfl (hb hby d5_0) rfl rfl ?_
    show Steps p.tables e below (s₁.setTop (mkF m 1 #[.val (.ref a1)] [(.ref a1)])) _
    refine st3 _ ?_
    show Steps p.tables e below (T3.setTop (mkF m 4 #[.val (.ref a1)] [(.int w2)])) _
    exact retI X3 hx Bd.returns (hb hby d5_4) hr
  · show Q5 Z a1 w2 h0 n0 _ T3.heap _
    rw [e3]
    exact ⟨rfl, N0, rfl⟩
theorem d4_0 : decode prog_25_method_2_code 0 = .ok (.aload_n 0, 1) := by decide +kernel
theorem d4_1 : decode prog_25_method_2_code 1 = .ok (.getfield 10, 3) := by decide +kernel
theorem d4_4 : decode prog_25_method_2_code 4 = .ok (.invokevirtual 22, 3) := by decide +kernel
theorem d4_7 : decode prog_25_method_2_code 7 = .ok (.i2l, 1) := by decide +kernel
theorem d4_8 : decode prog_25_method_2_code 8 = .ok (.aload_n 0, 1) := by decide +kernel
theorem d4_9 : decode prog_25_method_2_code 9 = .ok (.getfield 26, 3) := by decide +kernel
theorem d4_12 : decode prog_25_method_2_code 12 = .ok (.ladd, 1) := by decide +kernel
theorem d4_13 : decode prog_25_method_2_code 13 = .ok (.lreturn, 1) := by decide +kernel
theorem pn_4 : plainName "com/example/syncline/syncline/client/bench/KvWorkload$Tally" = true := by first | (simp [plainName, overriddenIn]; done) | decide +kernel
theorem pd_4_2 : parseMethodDescriptor "()I" = some ⟨[], some .int⟩ := by decide +kernel
theorem ef_4 (m : MethodId) (x0 : Addr) : entryFrame m #[(.ref x0)] 1 = mkF m 0 #[.val (.ref x0)] [] := by first | (simp [entryFrame, mkF, argsToLocals, Value.category]; done) | rfl
def Q4 (cn : Int32) (w5 : Int64) (h0 : Heap) (n0 : Nat) (v : Option Value) (h : Heap) (L : List Loc) : Prop := v = some (.long (cn.toInt64 + w5)) ∧ Fr n0 L ∧ h = h0
set_option maxRecDepth 65536 in
set_option maxHeartbeats 40000000 in
theorem rm4 (l : Launch) (Z : State) (a0 : Array Value) (hw : ∀ d ∈ tables_1, d.before a0 Z = true) (ws : List Jvm.Cond) (a1 : Addr) (w2 : Addr) (w5 : Int64) (cn : Int32) (h0 : Heap) (n0 : Nat) (Z0 : n0 ≤ h0.size) (F_updateCommits_a1 : Fld Z h0 a1 "com/example/syncline/syncline/client/bench/KvWorkload$Tally" "updateCommits" "Lcom/example/syncline/syncline/client/bench/Latencies;" (.ref w2)) (E_w2 : Exa Z h0 w2 "com/example/syncline/syncline/client/bench/Latencies") (F_readOnlyCommitted_a1 : Fld Z h0 a1 "com/example/syncline/syncline/client/bench/KvWorkload$Tally" "readOnlyCommitted" "J" (.long w5)) (F_count_w2 : Fld Z h0 w2 "com/example/syncline/syncline/client/bench/Latencies" "count" "I" (.int cn)) :
    MetFree l (⟨"com/example/syncline/syncline/client/bench/KvWorkload$Tally", "committed", "()J"⟩ : MethodName) (head1 (Jvm.Cond.code (⟨"com/example/syncline/syncline/client/bench/KvWorkload$Tally", "committed", "()J"⟩ : MethodName) prog_25_method_2_code 1 (some .long) :: ws) ({ frames := 1, cells := 0, slots := 0, locals := 12 } : Room)) (fun a U => a = #[(.ref a1)] ∧ Z.Warmed39 U.vm ∧ U.heap = h0) (fun _ _ _ _ _ => True) (fun _ U o U' => ∃ v L, o = .returned v ∧ Q4 cn w5 h0 n0 v U'.heap L ∧ FrameEnd U o U' L ({ frames := 1, cells := 0, slots := 0, locals := 12 } : Room).cells ({ frames := 1, cells := 0, slots := 0, locals := 12 } : Room).slots) := by
  refine MetFree.of_bodySF (plainFor_of_name pn_4) hisR ?_
  intro p e s m args below meth c s₁ Bd hml0 hP hK
  obtain ⟨rfl, hZ, hh⟩ := hP
  have hx := Bd.exec
  have hby := Bd.bytes
  have hml : c.maxLocals = 1 := hml0
  have hown : s.vm.findClass "com/example/syncline/syncline/client/bench/KvWorkload$Tally" = some m.cls := findClass_of_methodNamed Bd.named
  have hnm := (name_of_methodNamed Bd.named Bd.method).1
  have X0 : Stand p l e ({ frames := 1, cells := 0, slots := 0, locals := 12 } : Room) s m #[(.ref a1)] below meth c s₁ [] 0 0 := Stand.of_body Bd
  have e0 : s₁.heap = h0 := by rw [← hh, Bd.state]; rfl
  have N0 := Fr.nil n0
  have pre0 : ∀ t, Steps p.tables e below (s₁.setTop (mkF m 0 #[.val (.ref a1)] [])) t → Steps p.tables e below (s₁.setTop (entryFrame m #[(.ref a1)] 1)) t := fun t k => castTop (ef_4 m a1) k
  obtain ⟨T3, X3, e3, st3⟩ := getF X0 hx hZ hown (host := "") (Or.inl (hw _ (List.mem_of_getElem? (i := 21) rfl))) Via.refl e0 F_updateCommits_a1 (g := (mkF m 1 #[.val (.ref a1)] [(.ref a1)])) rfl rfl (hb hby d4_1)
  obtain ⟨cq4, kq4, q4a, q4b, q4c⟩ := isOf hZ e3 E_w2
  obtain ⟨_, _, ⟨T4, L4, k4, n4⟩, -, X4, ⟨Lc4, hQ4, l4, y4, z4⟩, st4⟩ := X3.virtualBack hx (y := (⟨"com/example/syncline/syncline/client/bench/Latencies", "count", "()I"⟩ : MethodName)) (z := (⟨"com/example/syncline/syncline/client/bench/Latencies", "count", "()I"⟩ : MethodName)) hown (mvT hZ (hw _ (List.mem_of_getElem? (i := 32) rfl))) (mvT hZ (hw _ (List.mem_of_getElem? (i := 33) rfl))) (notFace_of_selects (args := #[]) (mvT hZ (hw _ (List.mem_of_getElem? (i := 35) rfl)))) (mvT hZ (hw _ (List.mem_of_getElem? (i := 35) rfl))) (mvT hZ (hw _ (List.mem_of_getElem? (i := 34) rfl))) (by decide) (backOf (W := 0) (rm5 l Z a0 hw [] w2 cn h0 n0 Z0 F_count_w2) hZ (hw _ (List.mem_of_getElem? (i := 36) rfl)) (hw _ (List.mem_of_getElem? (i := 12) rfl)) (by decide) (by decide)) q4a q4c (g := (mkF m 4 #[.val (.ref a1)] [(.ref w2)])) rfl (by rw [hml]; rfl) (Steps.refl _) (argsL := []) (rest := []) (lenOf pd_4_2 rfl) rfl (by show 2 * 0 + _ ≤ _; exact Nat.le_of_eq rfl) (hb hby d4_4) (fun _ _ => ⟨rfl, e3, (by decide : 0 + 0 ≤ _), (by decide : 0 + 0 ≤ _)⟩)
  dsimp only [Pt.U, Pt.locs, Pt.cells, Pt.slots] at X4 l4 y4 z4 st4 hQ4
  subst l4 y4 z4
  obtain ⟨rfl, N4q, q4⟩ := hQ4
  have K4 : Keep h0 T4.heap [] := by rw [q4]; exact Keep.refl _ _
  have N4 := Fr.app N0 N4q
  obtain ⟨T6, X6, e6, st6⟩ := getF X4 hx hZ hown (host := "") (Or.inl (hw _ (List.mem_of_getElem? (i := 39) rfl))) Via.refl rfl (F_readOnlyCommitted_a1.keep K4 nin0) (g := (mkF m 9 #[.val (.ref a1)] [(.ref a1), (.long (cn.toInt64))])) rfl rfl (hb hby d4_9)
  obtain ⟨fs, hr, hrun, hended, hW, hsame⟩ := X6.leave (v := some (.long ((cn.toInt64) + w5))) (fun h => by rw [Bd.returns] at h; cases h)
  refine ⟨_, _, pre0 _ ?_, hrun, hended, _, _, rfl, ?_, ⟨_, rfl⟩, hW, hsame.mono (by decide) (by decide)⟩
  · show Steps p.tables e below (s₁.setTop (mkF m 0 #[.val (.ref a1)] [])) _
    refine XS.aloadN X0.here hx rfl (hb hby d4_0) rfl rfl ?_
    show Steps p.tables e below (s₁.setTop (mkF m 1 #[.val (.ref a1)] [(.ref a1)])) _
    refine st3 _ ?_
    show Steps p.tables e below (T3.setTop (mkF m 4 #[.val (.ref a1)] [(.ref w2)])) _
    refine st4.trans ?_
    show Steps p.tables e below (T4.setTop (mkF m 7 #[.val (.ref a1)] [(.int cn)])) _
    refine XS.i2l X4.here hx rfl (hb hby d4_7) rfl ?_
    show Steps p.tables e below (T4.setTop (mkF m 8 #[.val (.ref a1)] [(.long (cn.toInt64))])) _
    refine XS.aloadN X4.here hx rfl (hb hby d4_8) rfl rfl ?_
    show Steps p.tables e below (T4.setTop (mkF m 9 #[.val (.ref a1)] [(.ref a1), (.long (cn.toInt64))])) _
    refine st6 _ ?_
    show Steps p.tables e below (T6.setTop (mkF m 12 #[.val (.ref a1)] [(.long w5), (.long (cn.toInt64))])) _
    refine XS.ladd X6.here hx rfl (hb hby d4_12) rfl ?_
    show Steps p.tables e below (T6.setTop (mkF m 13 #[.val (.ref a1)] [(.long ((cn.toInt64) + w5))])) _
    exact own_retL X6 hx Bd.returns (hb hby d4_13) hr
  · show Q4 cn w5 h0 n0 _ T6.heap _
    rw [e6]
    exact ⟨rfl, N4, q4⟩
theorem d3_0 : decode prog_26_method_1_code 0 = .ok (.aload_n 0, 1) := by decide +kernel
theorem d3_1 : decode prog_26_method_1_code 1 = .ok (.invokespecial 1, 3) := by decide +kernel
theorem d3_4 : decode prog_26_method_1_code 4 = .ok (.aload_n 0, 1) := by decide +kernel
theorem d3_5 : decode prog_26_method_1_code 5 = .ok (.getstatic 7, 3) := by decide +kernel
theorem d3_8 : decode prog_26_method_1_code 8 = .ok (.putfield 13, 3) := by decide +kernel
theorem d3_11 : decode prog_26_method_1_code 11 = .ok (.return_, 1) := by decide +kernel
theorem pn_3 : plainName "com/example/syncline/syncline/client/bench/Latencies" = true := by first | (simp [plainName, overriddenIn]; done) | decide +kernel
theorem ef_3 (m : MethodId) (x0 : Addr) : entryFrame m #[(.ref x0)] 1 = mkF m 0 #[.val (.ref x0)] [] := by first | (simp [entryFrame, mkF, argsToLocals, Value.category]; done) | rfl
def Q3 (Z : State) (a1 : Addr) (w3 : Addr) (u_nanos_a1 : Value) (h0 : Heap) (n0 : Nat) (v : Option Value) (h : Heap) (L : List Loc) : Prop := v = none ∧ Fr n0 L ∧ Keep h0 h [a1] ∧ Exa Z h a1 "com/example/syncline/syncline/client/bench/Latencies" ∧ Fld Z h a1 "com/example/syncline/syncline/client/bench/Latencies" "nanos" "[J" (.ref w3) ∧ Fld Z h a1 "com/example/syncline/syncline/client/bench/Latencies" "count" "I" (.int 0)
set_option maxRecDepth 65536 in
set_option maxHeartbeats 40000000 in
theorem rm3 (l : Launch) (Z : State) (a0 : Array Value) (hw : ∀ d ∈ tables_1, d.before a0 Z = true) (ws : List Jvm.Cond) (a1 : Addr) (w3 : Addr) (u_nanos_a1 : Value) (h0 : Heap) (n0 : Nat) (Z0 : n0 ≤ h0.size) (S_NONE : Sta Z h0 "com/example/syncline/syncline/client/bench/Latencies" "NONE" "[J" (.ref w3)) (E_a1 : Exa Z h0 a1 "com/example/syncline/syncline/client/bench/Latencies") (F_nanos_a1 : Fld Z h0 a1 "com/example/syncline/syncline/client/bench/Latencies" "nanos" "[J" u_nanos_a1) (g_a1 : n0 ≤ a1) (F_count_a1 : Fld Z h0 a1 "com/example/syncline/syncline/client/bench/Latencies" "count" "I" (.int 0)) :
    MetFree l (⟨"com/example/syncline/syncline/client/bench/Latencies", "<init>", "()V"⟩ : MethodName) (head1 (Jvm.Cond.code (⟨"com/example/syncline/syncline/client/bench/Latencies", "<init>", "()V"⟩ : MethodName) prog_26_method_1_code 1 none :: ws) ({ frames := 1, cells := 0, slots := 0, locals := 12 } : Room)) (fun a U => a = #[(.ref a1)] ∧ Z.Warmed39 U.vm ∧ U.heap = h0) (fun _ _ _ _ _ => True) (fun _ U o U' => ∃ v L, o = .returned v ∧ Q3 Z a1 w3 u_nanos_a1 h0 n0 v U'.heap L ∧ FrameEnd U o U' L ({ frames := 1, cells := 0, slots := 0, locals := 12 } : Room).cells ({ frames := 1, cells := 0, slots := 0, locals := 12 } : Room).slots) := by
  refine MetFree.of_bodySF (plainFor_of_name pn_3) hisR ?_
  intro p e s m args below meth c s₁ Bd hml0 hP hK
  obtain ⟨rfl, hZ, hh⟩ := hP
  have hx := Bd.exec
  have hby := Bd.bytes
  have hml : c.maxLocals = 1 := hml0
  have hown : s.vm.findClass "com/example/syncline/syncline/client/bench/Latencies" = some m.cls := findClass_of_methodNamed Bd.named
  have hnm := (name_of_methodNamed Bd.named Bd.method).1
  have X0 : Stand p l e ({ frames := 1, cells := 0, slots := 0, locals := 12 } : Room) s m #[(.ref a1)] below meth c s₁ [] 0 0 := Stand.of_body Bd
  have e0 : s₁.heap = h0 := by rw [← hh, Bd.state]; rfl
  have N0 := Fr.nil n0
  have pre0 : ∀ t, Steps p.tables e below (s₁.setTop (mkF m 0 #[.val (.ref a1)] [])) t → Steps p.tables e below (s₁.setTop (entryFrame m #[(.ref a1)] 1)) t := fun t k => castTop (ef_3 m a1) k
  obtain ⟨T2, X2, e2, st2⟩ := initO X0 hx hZ hown (hw _ (List.mem_of_getElem? (i := 16) rfl)) (hw _ (List.mem_of_getElem? (i := 8) rfl)) (hw _ (List.mem_of_getElem? (i := 9) rfl)) e0 (g := (mkF m 1 #[.val (.ref a1)] [(.ref a1)])) rfl (by rw [hml]; rfl) rfl (hb hby d3_1) (by decide) (W := 0) (by show 2 * 0 + _ ≤ _; exact Nat.le_of_eq rfl) (by decide)
  obtain ⟨T4, X4, e4, st4⟩ := getS2 X2 hx hZ hown (host := "") (Or.inl (hw _ (List.mem_of_getElem? (i := 17) rfl))) Via.refl e2 S_NONE (g := (mkF m 5 #[.val (.ref a1)] [(.ref a1)])) rfl (hb hby d3_5)
  obtain ⟨T5, h5, X5, e5, W5, st5⟩ := putF X4 hx hZ hown (host := "") (Or.inl (hw _ (List.mem_of_getElem? (i := 19) rfl))) Via.refl e4 F_nanos_a1 E_a1 (Or.inl (hw _ (List.mem_of_getElem? (i := 20) rfl))) (hw _ (List.mem_of_getElem? (i := 11) rfl)) (ty := (.array .long)) (by decide) rfl rfl (g := (mkF m 8 #[.val (.ref a1)] [(.ref w3), (.ref a1)])) rfl rfl (hb hby d3_8)
  have Fw5 := F_nanos_a1.same W5
  have K5 : Keep h0 h5 [a1] := (Keep.refl h0 [a1]).wr W5 (Or.inl (List.mem_of_getElem? (i := 0) rfl))
  have N5 := Fr.snoc X5 N0 g_a1
  obtain ⟨fs, hr, hrun, hended, hW, hsame⟩ := X5.leave (v := none) (fun _ => rfl)
  refine ⟨_, _, pre0 _ ?_, hrun, hended, _, _, rfl, ?_, ⟨_, rfl⟩, hW, hsame.mono (by decide) (by decide)⟩
  · show Steps p.tables e below (s₁.setTop (mkF m 0 #[.val (.ref a1)] [])) _
    refine XS.aloadN X0.here hx rfl (hb hby d3_0) rfl rfl ?_
    show Steps p.tables e below (s₁.setTop (mkF m 1 #[.val (.ref a1)] [(.ref a1)])) _
    refine st2 _ ?_
    show Steps p.tables e below (T2.setTop (mkF m 4 #[.val (.ref a1)] [])) _
    refine XS.aloadN X2.here hx rfl (hb hby d3_4) rfl rfl ?_
    show Steps p.tables e below (T2.setTop (mkF m 5 #[.val (.ref a1)] [(.ref a1)])) _
    refine st4 _ ?_
    show Steps p.tables e below (T4.setTop (mkF m 8 #[.val (.ref a1)] [(.ref w3), (.ref a1)])) _
    refine st5 _ ?_
    show Steps p.tables e below (T5.setTop (mkF m 11 #[.val (.ref a1)] [])) _
    exact X5.returnOut hx Bd.returns (hb hby d3_11) hr
  · show Q3 Z a1 w3 u_nanos_a1 h0 n0 _ T5.heap _
    rw [e5]
    exact ⟨rfl, N5, K5, (E_a1.wr W5), Fw5, F_count_a1.other W5 (Or.inr (slot_ne (Or.inl (hw _ (List.mem_of_getElem? (i := 38) rfl))) (Or.inl (hw _ (List.mem_of_getElem? (i := 20) rfl))) (by decide) (t := .int) (t' := (.array .long)) (by decide) (by decide)))⟩

theorem own_LT.keep {Z : State} {n0 : Nat} {h h' : Heap} {a w : Addr} {n : Nat} {ws : List Addr} (X : own_LT Z n0 h a w n) (K : Keep h h' ws) (qa : a ∉ ws) (qw : w ∉ ws) : own_LT Z n0 h' a w n := by
  refine ⟨X.1.keep K, X.2.1.keep K qa, X.2.2.1.keep K qa, X.2.2.2.1, X.2.2.2.2.1, ?_⟩
  rcases X.2.2.2.2.2 with ⟨m0, V⟩ | ⟨hm, gw, f, V⟩
  · exact Or.inl ⟨m0, V.keep K qw⟩
  · exact Or.inr ⟨hm, gw, f, V.keep K qw⟩
theorem own_LT.wlt {Z : State} {n0 : Nat} {h : Heap} {a w : Addr} {n : Nat} (X : own_LT Z n0 h a w n) : w < h.size := by
  obtain ⟨cl, A⟩ := X.arr; exact A.lt
theorem own_AD.refl (h : Heap) (a w : Addr) (n : Nat) : own_AD h h a w n := by
  by_cases z : n = 0
  · exact Or.inl ⟨z, Keep.refl _ _⟩
  · exact Or.inr ⟨by omega, Keep.refl _ _⟩
theorem own_AD.trans {h0 h h' : Heap} {a wa w : Addr} {n k : Nat} (D : own_AD h0 h a wa n) (D' : own_AD h h' a w k) (hk : n ≤ k) (q1 : 1 ≤ n → w = wa) (q0 : n = 0 → 1 ≤ k → h0.size ≤ w) : own_AD h0 h' a wa n := by
  have ma : a ∈ [a] := List.mem_singleton.mpr rfl
  rcases D with ⟨z, K⟩ | ⟨z, K⟩
  · rcases D' with ⟨z', K'⟩ | ⟨z', K'⟩
    · exact Or.inl ⟨z, K.trans K' (allS (Or.inl ma) all0)⟩
    · exact Or.inl ⟨z, K.trans K' (allS (Or.inl ma) (allS (Or.inr (q0 z z')) all0))⟩
  · rcases D' with ⟨z', K'⟩ | ⟨z', K'⟩
    · exact absurd z' (by omega)
    · have hw := q1 z
      exact Or.inr ⟨z, K.trans K' (allS (Or.inl (List.mem_cons_self ..)) (allS (Or.inl (by rw [hw]; exact List.mem_cons_of_mem _ (List.mem_singleton.mpr rfl))) all0))⟩
theorem d7_2 : decode prog_26_method_4_code 2 = .ok (.iload_n 2, 1) := by decide +kernel
theorem d7_3 : decode prog_26_method_4_code 3 = .ok (.aload_n 1, 1) := by decide +kernel
theorem d7_4 : decode prog_26_method_4_code 4 = .ok (.getfield 16, 3) := by decide +kernel
theorem d7_7 : decode prog_26_method_4_code 7 = .ok (.if_icmp .ge 19, 3) := by decide +kernel
theorem d7_10 : decode prog_26_method_4_code 10 = .ok (.aload_n 0, 1) := by decide +kernel
theorem d7_11 : decode prog_26_method_4_code 11 = .ok (.aload_n 1, 1) := by decide +kernel
theorem d7_12 : decode prog_26_method_4_code 12 = .ok (.getfield 13, 3) := by decide +kernel
theorem d7_15 : decode prog_26_method_4_code 15 = .ok (.iload_n 2, 1) := by decide +kernel
theorem d7_16 : decode prog_26_method_4_code 16 = .ok (.laload, 1) := by decide +kernel
theorem d7_17 : decode prog_26_method_4_code 17 = .ok (.invokevirtual 32, 3) := by decide +kernel
theorem d7_20 : decode prog_26_method_4_code 20 = .ok (.iinc 2 1, 3) := by decide +kernel
theorem d7_23 : decode prog_26_method_4_code 23 = .ok (.goto (-21), 3) := by decide +kernel
theorem pd_7_5 : parseMethodDescriptor "(J)V" = some ⟨[.long], none⟩ := by decide +kernel
set_option maxRecDepth 65536 in
set_option maxHeartbeats 40000000 in
theorem tn7_2_2 {p : Program} {l : Launch} {e : Env} {s : State} {m : MethodId} {args : Array Value} {below : List Frame} {meth : Method} {c : Code} {T0 : State} {locs : List Loc} {Z : State} {a0 : Array Value} {h0 : Heap} {n0 : Nat} (o0 : Addr) (o1 : Addr) (i2 : Int32) (w3 : Int32) (w5 : Addr) (w7 : Int64) (cl_w5 : Cell) (i : Nat) (w : Addr) (n : Nat)
    (X0 : Stand p l e ({ frames := 3, cells := 2, slots := 8, locals := 47 } : Room) s m args below meth c T0 locs i (4 * i)) (hx : p.tables.exec = Jvm.exec) (hZ : Z.Warmed39 s.vm) (hw : ∀ d ∈ tables_1, d.before a0 Z = true) (hby : c.code = prog_26_method_4_code) (hml : c.maxLocals = 3) (hown : s.vm.findClass "com/example/syncline/syncline/client/bench/Latencies" = some m.cls) (e0 : T0.heap = h0) (N0 : Fr n0 locs) (Z0 : n0 ≤ h0.size) (F_count_o1 : Fld Z h0 o1 "com/example/syncline/syncline/client/bench/Latencies" "count" "I" (.int w3)) (F_nanos_o1 : Fld Z h0 o1 "com/example/syncline/syncline/client/bench/Latencies" "nanos" "[J" (.ref w5)) (Ar_w5 : Arr Z h0 w5 cl_w5 .long) (hin16 : ¬ (i2 < 0 ∨ cl_w5.slots.size ≤ (i2).toNatClampNeg)) (hat16 : cl_w5.slots[(i2).toNatClampNeg]? = some (.long w7)) (E_o0 : Exa Z h0 o0 "com/example/syncline/syncline/client/bench/Latencies") (hc7 : i2 < w3) (X : own_LT Z n0 h0 o0 w n) (hn : n < 4) (hi : i < 2) :
    ∃ (T' : State) (h' : Heap) (locs' : List Loc), Stand p l e ({ frames := 3, cells := 2, slots := 8, locals := 47 } : Room) s m args below meth c T' locs' (i + 1) (4 * i + 4) ∧ T'.heap = h' ∧ Fr n0 locs' ∧ n0 ≤ h'.size ∧ (∃ w', own_LT Z n0 h' o0 w' (n + 1) ∧ own_AD h0 h' o0 w n ∧ (n = 0 → h0.size ≤ w') ∧ (1 ≤ n → w' = w)) ∧
      ∀ target, Steps p.tables e below (T'.setTop (mkF m 2 #[.val (.ref o0), .val (.ref o1), .val (.int (i2 + (1 : Int32)))] [])) target → Steps p.tables e below (T0.setTop (mkF m 2 #[.val (.ref o0), .val (.ref o1), .val (.int i2)] [])) target := by
  obtain ⟨T4, X4, e4, st4⟩ := getF X0 hx hZ hown (host := "") (Or.inl (hw _ (List.mem_of_getElem? (i := 37) rfl))) Via.refl e0 F_count_o1 (g := (mkF m 4 #[.val (.ref o0), .val (.ref o1), .val (.int i2)] [(.ref o1), (.int i2)])) rfl rfl (hb hby d7_4)
  obtain ⟨T6, X6, e6, st6⟩ := getF X4 hx hZ hown (host := "") (Or.inl (hw _ (List.mem_of_getElem? (i := 19) rfl))) Via.refl e4 F_nanos_o1 (g := (mkF m 12 #[.val (.ref o0), .val (.ref o1), .val (.int i2)] [(.ref o1), (.ref o0)])) rfl rfl (hb hby d7_12)
  obtain ⟨cq8, kq8, q8a, q8b, q8c⟩ := isOf hZ e6 E_o0
  obtain ⟨_, _, ⟨T8, L8, k8, n8⟩, -, X8, ⟨Lc8, hQ8, l8, y8, z8⟩, st8⟩ := X6.virtualBack hx (y := (⟨"com/example/syncline/syncline/client/bench/Latencies", "add", "(J)V"⟩ : MethodName)) (z := (⟨"com/example/syncline/syncline/client/bench/Latencies", "add", "(J)V"⟩ : MethodName)) hown (mvT hZ (hw _ (List.mem_of_getElem? (i := 83) rfl))) (mvT hZ (hw _ (List.mem_of_getElem? (i := 63) rfl))) (notFace_of_selects (args := #[]) (mvT hZ (hw _ (List.mem_of_getElem? (i := 65) rfl)))) (mvT hZ (hw _ (List.mem_of_getElem? (i := 65) rfl))) (mvT hZ (hw _ (List.mem_of_getElem? (i := 64) rfl))) (by decide) (backOf (W := 0) (rm9 l Z a0 hw [] o0 w n w7 h0 n0 Z0 X hn) hZ (hw _ (List.mem_of_getElem? (i := 66) rfl)) (hw _ (List.mem_of_getElem? (i := 12) rfl)) (by decide) (by decide)) q8a q8c (g := (mkF m 17 #[.val (.ref o0), .val (.ref o1), .val (.int i2)] [(.long w7), (.ref o0)])) rfl (by rw [hml]; rfl) (Steps.refl _) (argsL := [(.long w7)]) (rest := []) (lenOf pd_7_5 rfl) rfl (by show 2 * 0 + _ ≤ _; exact Nat.le_of_eq rfl) (hb hby d7_17) (fun _ _ => ⟨rfl, e6, (by show i + 1 ≤ 2; omega), (by show 4 * i + 4 ≤ 8; omega)⟩)
  dsimp only [Pt.U, Pt.locs, Pt.cells, Pt.slots] at X8 l8 y8 z8 st8 hQ8
  subst l8 y8 z8
  obtain ⟨rfl, N8q, q8⟩ := hQ8
  have N8 := Fr.app N0 N8q
  refine ⟨T8, _, _, X8, rfl, N8, (Nat.le_trans Z0 q8.choose_spec.2.1.size), q8, fun target kt => ?_⟩
  show Steps p.tables e below (T0.setTop (mkF m 2 #[.val (.ref o0), .val (.ref o1), .val (.int i2)] [])) _
  refine XS.iloadN X0.here hx rfl (hb hby d7_2) rfl ?_
  show Steps p.tables e below (T0.setTop (mkF m 3 #[.val (.ref o0), .val (.ref o1), .val (.int i2)] [(.int i2)])) _
  refine XS.aloadN X0.here hx rfl (hb hby d7_3) rfl rfl ?_
  show Steps p.tables e below (T0.setTop (mkF m 4 #[.val (.ref o0), .val (.ref o1), .val (.int i2)] [(.ref o1), (.int i2)])) _
  refine st4 _ ?_
  show Steps p.tables e below (T4.setTop (mkF m 7 #[.val (.ref o0), .val (.ref o1), .val (.int i2)] [(.int w3), (.int i2)])) _
  refine XS.icmpNo X4.here hx rfl (hb hby d7_7) rfl (tlt hc7).2.1 ?_
  show Steps p.tables e below (T4.setTop (mkF m 10 #[.val (.ref o0), .val (.ref o1), .val (.int i2)] [])) _
  refine XS.aloadN X4.here hx rfl (hb hby d7_10) rfl rfl ?_
  show Steps p.tables e below (T4.setTop (mkF m 11 #[.val (.ref o0), .val (.ref o1), .val (.int i2)] [(.ref o0)])) _
  refine XS.aloadN X4.here hx rfl (hb hby d7_11) rfl rfl ?_
  show Steps p.tables e below (T4.setTop (mkF m 12 #[.val (.ref o0), .val (.ref o1), .val (.int i2)] [(.ref o1), (.ref o0)])) _
  refine st6 _ ?_
  show Steps p.tables e below (T6.setTop (mkF m 15 #[.val (.ref o0), .val (.ref o1), .val (.int i2)] [(.ref w5), (.ref o0)])) _
  refine XS.iloadN X6.here hx rfl (hb hby d7_15) rfl ?_
  show Steps p.tables e below (T6.setTop (mkF m 16 #[.val (.ref o0), .val (.ref o1), .val (.int i2)] [(.int i2), (.ref w5), (.ref o0)])) _
  refine X6.laload hx (j := i2) (v := (.long w7)) (by rw [e6]; exact Ar_w5.1) (State.isArrayOf_alike hZ.alike Ar_w5.2.1) Ar_w5.2.2 hin16 hat16 (g := (mkF m 16 #[.val (.ref o0), .val (.ref o1), .val (.int i2)] [(.int i2), (.ref w5), (.ref o0)])) rfl rfl (hb hby d7_16) _ ?_
  show Steps p.tables e below (T6.setTop (mkF m 17 #[.val (.ref o0), .val (.ref o1), .val (.int i2)] [(.long w7), (.ref o0)])) _
  refine st8.trans ?_
  show Steps p.tables e below (T8.setTop (mkF m 20 #[.val (.ref o0), .val (.ref o1), .val (.int i2)] [])) _
  refine XS.iinc X8.here hx rfl (hb hby d7_20) rfl (l' := #[.val (.ref o0), .val (.ref o1), .val (.int (i2 + (1 : Int32)))]) rfl ?_
  show Steps p.tables e below (T8.setTop (mkF m 23 #[.val (.ref o0), .val (.ref o1), .val (.int (i2 + (1 : Int32)))] [])) _
  refine XS.goto X8.here hx rfl (pc0 := 23) (pc' := 2) rfl (hb hby d7_23) (by decide) (by decide) ?_
  exact kt
set_option maxRecDepth 65536 in
set_option maxHeartbeats 40000000 in
theorem tn7_2_26 {p : Program} {l : Launch} {e : Env} {R : Room} {s : State} {m : MethodId} {args : Array Value} {below : List Frame} {meth : Method} {c : Code} {T0 : State} {locs : List Loc} {cells slots : Nat} {Z : State} {a0 : Array Value} {h0 : Heap} (s0 : Slot) (o1 : Addr) (i2 : Int32) (w3 : Int32)
    (X0 : Stand p l e R s m args below meth c T0 locs cells slots) (hx : p.tables.exec = Jvm.exec) (hZ : Z.Warmed39 s.vm) (hw : ∀ d ∈ tables_1, d.before a0 Z = true) (hby : c.code = prog_26_method_4_code) (hml : c.maxLocals = 3) (hown : s.vm.findClass "com/example/syncline/syncline/client/bench/Latencies" = some m.cls) (e0 : T0.heap = h0) (F_count_o1 : Fld Z h0 o1 "com/example/syncline/syncline/client/bench/Latencies" "count" "I" (.int w3)) (hc7 : ¬ (i2 < w3)) :
    ∃ (T' : State), Stand p l e R s m args below meth c T' locs cells slots ∧ T'.heap = h0 ∧
      ∀ target, Steps p.tables e below (T'.setTop (mkF m 26 #[s0, .val (.ref o1), .val (.int i2)] [])) target → Steps p.tables e below (T0.setTop (mkF m 2 #[s0, .val (.ref o1), .val (.int i2)] [])) target := by
  obtain ⟨T4, X4, e4, st4⟩ := getF X0 hx hZ hown (host := "") (Or.inl (hw _ (List.mem_of_getElem? (i := 37) rfl))) Via.refl e0 F_count_o1 (g := (mkF m 4 #[s0, .val (.ref o1), .val (.int i2)] [(.ref o1), (.int i2)])) rfl rfl (hb hby d7_4)
  refine ⟨T4, X4, e4, fun target kt => ?_⟩
  show Steps p.tables e below (T0.setTop (mkF m 2 #[s0, .val (.ref o1), .val (.int i2)] [])) _
  refine XS.iloadN X0.here hx rfl (hb hby d7_2) rfl ?_
  show Steps p.tables e below (T0.setTop (mkF m 3 #[s0, .val (.ref o1), .val (.int i2)] [(.int i2)])) _
  refine XS.aloadN X0.here hx rfl (hb hby d7_3) rfl rfl ?_
  show Steps p.tables e below (T0.setTop (mkF m 4 #[s0, .val (.ref o1), .val (.int i2)] [(.ref o1), (.int i2)])) _
  refine st4 _ ?_
  show Steps p.tables e below (T4.setTop (mkF m 7 #[s0, .val (.ref o1), .val (.int i2)] [(.int w3), (.int i2)])) _
  refine XS.icmpYes X4.here hx rfl (pc0 := 7) (pc' := 26) rfl (hb hby d7_7) rfl (flt hc7).2.1 (by decide) (by decide) ?_
  exact kt
theorem d7_0 : decode prog_26_method_4_code 0 = .ok (.iconst 0, 1) := by decide +kernel
theorem d7_1 : decode prog_26_method_4_code 1 = .ok (.istore_n 2, 1) := by decide +kernel
theorem os7_1 {s0 : Slot} {s1 : Slot} {s2 : Slot} {v : Int32} (h : One s2) : storeLocals #[s0, s1, s2] 2 (.int v) = some #[s0, s1, .val (.int v)] := by
  rcases h with rfl | ⟨w, rfl, hw⟩
  · rfl
  · cases w <;> first | rfl | (simp [Value.category] at hw)
set_option maxRecDepth 65536 in
set_option maxHeartbeats 40000000 in
theorem tn7_0_2 {p : Program} {l : Launch} {e : Env} {R : Room} {s : State} {m : MethodId} {args : Array Value} {below : List Frame} {meth : Method} {c : Code} {T0 : State} {locs : List Loc} {cells slots : Nat} {Z : State} {a0 : Array Value} {h0 : Heap} (s0 : Slot) (s1 : Slot)
    (X0 : Stand p l e R s m args below meth c T0 locs cells slots) (hx : p.tables.exec = Jvm.exec) (hZ : Z.Warmed39 s.vm) (hw : ∀ d ∈ tables_1, d.before a0 Z = true) (hby : c.code = prog_26_method_4_code) (hml : c.maxLocals = 3) (hown : s.vm.findClass "com/example/syncline/syncline/client/bench/Latencies" = some m.cls) (e0 : T0.heap = h0) (hs2 : One .unset) :
    ∃ (T' : State), Stand p l e R s m args below meth c T' locs cells slots ∧ T'.heap = h0 ∧
      ∀ target, Steps p.tables e below (T'.setTop (mkF m 2 #[s0, s1, .val (.int (0 : Int32))] [])) target → Steps p.tables e below (T0.setTop (mkF m 0 #[s0, s1, .unset] [])) target := by

  refine ⟨T0, X0, e0, fun target kt => ?_⟩
  show Steps p.tables e below (T0.setTop (mkF m 0 #[s0, s1, .unset] [])) _
  refine XS.iconst X0.here hx rfl (hb hby d7_0) ?_
  show Steps p.tables e below (T0.setTop (mkF m 1 #[s0, s1, .unset] [(.int (0 : Int32))])) _
  refine XS.istoreN X0.here hx rfl (hb hby d7_1) rfl (l' := #[s0, s1, .val (.int (0 : Int32))]) (os7_1 hs2) ?_
  exact kt

set_option maxRecDepth 65536 in
set_option maxHeartbeats 4000000 in
theorem own_lp7 {p : Program} {l : Launch} {e : Env} {s : State} {m : MethodId} {args : Array Value} {below : List Frame} {meth : Method} {c : Code} {Z : State} {a0 : Array Value} {n0 : Nat} (h00 : Heap) (a b wa wb : Addr) (n mm : Nat) (hx : p.tables.exec = Jvm.exec) (hZ : Z.Warmed39 s.vm) (hw : ∀ d ∈ tables_1, d.before a0 Z = true) (hby : c.code = prog_26_method_4_code) (hml : c.maxLocals = 3) (hown : s.vm.findClass "com/example/syncline/syncline/client/bench/Latencies" = some m.cls) (ab : b ≠ a) (hm2 : mm ≤ 2) (hnm : n + mm ≤ 4) :
    ∀ (k i : Nat) (T0 : State) (h0 : Heap) (locs : List Loc) (w : Addr), i + k = mm → Stand p l e ({ frames := 3, cells := 2, slots := 8, locals := 47 } : Room) s m args below meth c T0 locs i (4 * i) → T0.heap = h0 → Fr n0 locs → n0 ≤ h0.size → own_LT Z n0 h0 a w (n + i) → own_LT Z n0 h0 b wb mm → own_AD h00 h0 a wa n → (1 ≤ n → w = wa) → (n = 0 → 1 ≤ i → h00.size ≤ w) → (1 ≤ n + i → 1 ≤ mm → wb ≠ w) →
    ∃ (T' : State) (h' : Heap) (locs' : List Loc) (w' : Addr), Stand p l e ({ frames := 3, cells := 2, slots := 8, locals := 47 } : Room) s m args below meth c T' locs' mm (4 * mm) ∧ T'.heap = h' ∧ Fr n0 locs' ∧ n0 ≤ h'.size ∧ own_LT Z n0 h' a w' (n + mm) ∧ own_LT Z n0 h' b wb mm ∧ own_AD h00 h' a wa n ∧
      ∀ target, Steps p.tables e below (T'.setTop (mkF m 26 #[.val (.ref a), .val (.ref b), .val (.int (Int32.ofNat mm))] [])) target → Steps p.tables e below (T0.setTop (mkF m 2 #[.val (.ref a), .val (.ref b), .val (.int (Int32.ofNat i))] [])) target := by
  intro k
  induction k with
  | zero =>
    intro i T0 h0 locs w hi X0 e0 N0 Z0 X Y D q1 q2 sep
    obtain rfl : i = mm := by omega
    obtain ⟨T1, X1, e1, st1⟩ := tn7_2_26 (.val (.ref a)) b (Int32.ofNat i) (Int32.ofNat i) X0 hx hZ hw hby hml hown e0 Y.2.1 Int32.lt_irrefl
    exact ⟨T1, h0, locs, w, X1, e1, N0, Z0, X, Y, D, st1⟩
  | succ k ih =>
    intro i T0 h0 locs w hi X0 e0 N0 Z0 X Y D q1 q2 sep
    obtain ⟨f, clb, Ab, Sb, Hb⟩ : ∃ (f : Nat → Int64) (clb : Cell), Arr Z h0 wb clb .long ∧ clb.slots.size = 4 ∧ ∀ j, j < 4 → clb.slots[j]? = some (.long (f j)) := by
      rcases Y.2.2.2.2.2 with ⟨z, -⟩ | ⟨-, -, f, -, cl, A, S, H, -⟩
      · omega
      · exact ⟨f, cl, A, S, H⟩
    obtain ⟨T1, h1, l1, X1, e1, N1, Z1, ⟨w1, X', D', r0, r1⟩, st1⟩ := tn7_2_2 a b (Int32.ofNat i) (Int32.ofNat mm) wb (f i) clb i w (n + i) X0 hx hZ hw hby hml hown e0 N0 Z0 Y.2.1 Y.2.2.1 Ab (own_inb Sb (by omega) (by decide)) (by rw [own_nc (by omega)]; exact Hb i (by omega)) X.1 ((own_ltn (by omega) (by omega)).mpr (by omega)) X (by omega) (by omega)
    rw [own_add1] at st1
    have Y' := D'.lt X Y (hw _ (List.mem_of_getElem? (i := 11) rfl)) ab (fun u v => sep u v)
    have sz := D.size
    obtain ⟨T2, h2, l2, w2, X2, e2, N2, Z2, LA, LB, DD, st2⟩ := ih (i + 1) T1 h1 l1 w1 (by omega) X1 e1 N1 Z1 X' Y' (D.trans D' (by omega) q1 (fun u v => q2 u (by omega))) (fun u => (r1 (by omega)).trans (q1 u)) (fun u _ => by
      by_cases z : i = 0
      · exact Nat.le_trans sz (r0 (by omega))
      · rw [r1 (by omega)]; exact q2 u (by omega)) (fun _ v => by
      by_cases z : n + i = 0
      · exact Nat.ne_of_lt (Nat.lt_of_lt_of_le Y.wlt (r0 z))
      · rw [r1 (by omega)]; exact sep (by omega) v)
    exact ⟨T2, h2, l2, w2, X2, e2, N2, Z2, LA, LB, DD, fun t kt => st1 t (st2 t kt)⟩
theorem d7_26 : decode prog_26_method_4_code 26 = .ok (.return_, 1) := by decide +kernel
theorem pn_7 : plainName "com/example/syncline/syncline/client/bench/Latencies" = true := by first | (simp [plainName, overriddenIn]; done) | decide +kernel
theorem ef_7 (m : MethodId) (x0 : Addr) (x1 : Addr) : entryFrame m #[(.ref x0), (.ref x1)] 3 = mkF m 0 #[.val (.ref x0), .val (.ref x1), .unset] [] := by first | (simp [entryFrame, mkF, argsToLocals, Value.category]; done) | rfl


def Q7 (Z : State) (n0 : Nat) (a wa : Addr) (n : Nat) (b wb : Addr) (mm : Nat) (h0 : Heap) (v : Option Value) (h : Heap) (Lc : List Loc) : Prop := v = none ∧ Fr n0 Lc ∧ ∃ w', own_LT Z n0 h a w' (n + mm) ∧ own_LT Z n0 h b wb mm ∧ own_AD h0 h a wa n
set_option maxRecDepth 65536 in
set_option maxHeartbeats 4000000 in
theorem rm7 (l : Launch) (Z : State) (a0 : Array Value) (hw : ∀ d ∈ tables_1, d.before a0 Z = true) (ws : List Jvm.Cond) (a1 a2 wa wb : Addr) (n mm : Nat) (h0 : Heap) (n0 : Nat) (Z0 : n0 ≤ h0.size) (X : own_LT Z n0 h0 a1 wa n) (Y : own_LT Z n0 h0 a2 wb mm) (ab : a2 ≠ a1) (hm2 : mm ≤ 2) (hnm : n + mm ≤ 4) (sep : 1 ≤ n → 1 ≤ mm → wb ≠ wa) :
    MetFree l (⟨"com/example/syncline/syncline/client/bench/Latencies", "addAll", "(Lcom/example/syncline/syncline/client/bench/Latencies;)V"⟩ : MethodName) (head1 (Jvm.Cond.code (⟨"com/example/syncline/syncline/client/bench/Latencies", "addAll", "(Lcom/example/syncline/syncline/client/bench/Latencies;)V"⟩ : MethodName) prog_26_method_4_code 3 none :: ws) ({ frames := 3, cells := 2, slots := 8, locals := 47 } : Room)) (fun a U => a = #[(.ref a1), (.ref a2)] ∧ Z.Warmed39 U.vm ∧ U.heap = h0) (fun _ _ _ _ _ => True) (fun _ U o U' => ∃ v L, o = .returned v ∧ Q7 Z n0 a1 wa n a2 wb mm h0 v U'.heap L ∧ FrameEnd U o U' L ({ frames := 3, cells := 2, slots := 8, locals := 47 } : Room).cells ({ frames := 3, cells := 2, slots := 8, locals := 47 } : Room).slots) := by
  refine MetFree.of_bodySF (plainFor_of_name pn_7) hisR ?_
  intro p e s m args below meth c s₁ Bd hml0 hP hK
  obtain ⟨rfl, hZ, hh⟩ := hP
  have hx := Bd.exec
  have hby := Bd.bytes
  have hml : c.maxLocals = 3 := hml0
  have hown : s.vm.findClass "com/example/syncline/syncline/client/bench/Latencies" = some m.cls := findClass_of_methodNamed Bd.named
  have X0 : Stand p l e ({ frames := 3, cells := 2, slots := 8, locals := 47 } : Room) s m #[(.ref a1), (.ref a2)] below meth c s₁ [] 0 0 := Stand.of_body Bd
  have e0 : s₁.heap = h0 := by rw [← hh, Bd.state]; rfl
  have N0 := Fr.nil n0
  have pre0 : ∀ t, Steps p.tables e below (s₁.setTop (mkF m 0 #[.val (.ref a1), .val (.ref a2), .unset] [])) t → Steps p.tables e below (s₁.setTop (entryFrame m #[(.ref a1), (.ref a2)] 3)) t := fun t k => castTop (ef_7 m a1 a2) k
  obtain ⟨T1, X1, e1, st1⟩ := tn7_0_2 (.val (.ref a1)) (.val (.ref a2)) X0 hx hZ hw hby hml hown e0 One.u
  obtain ⟨T2, h2, l2, w2, X2, e2, N2, Z2, LA, LB, DD, st2⟩ := own_lp7 h0 a1 a2 wa wb n mm hx hZ hw hby hml hown ab hm2 hnm mm 0 T1 h0 [] wa (by omega) X1 e1 N0 Z0 X Y (own_AD.refl _ _ _ _) (fun _ => rfl) (fun _ v => absurd v (by decide)) sep
  obtain ⟨fs, hr, hrun, hended, hW, hsame⟩ := X2.leave (v := none) (fun _ => rfl)
  refine ⟨_, _, pre0 _ ?_, hrun, hended, _, _, rfl, ?_, ⟨_, rfl⟩, hW, hsame.mono (by show mm ≤ 2; exact hm2) (by show 4 * mm ≤ 8; omega)⟩
  · exact st1 _ (st2 _ (X2.returnOut hx Bd.returns (hb hby d7_26) hr))
  · show Q7 Z n0 a1 wa n a2 wb mm h0 _ T2.heap _
    rw [e2]
    exact ⟨rfl, N2, w2, LA, LB, DD⟩

def own_TY (Z : State) (n0 : Nat) (h : Heap) (t u lo gl : Addr) : Prop := Exa Z h t "com/example/syncline/syncline/client/bench/KvWorkload$Tally" ∧ n0 ≤ t ∧ Fld Z h t "com/example/syncline/syncline/client/bench/KvWorkload$Tally" "updateCommits" "Lcom/example/syncline/syncline/client/bench/Latencies;" (.ref u) ∧ Fld Z h t "com/example/syncline/syncline/client/bench/KvWorkload$Tally" "local" "Lcom/example/syncline/syncline/client/bench/Latencies;" (.ref lo) ∧ Fld Z h t "com/example/syncline/syncline/client/bench/KvWorkload$Tally" "global" "Lcom/example/syncline/syncline/client/bench/Latencies;" (.ref gl) ∧ Fld Z h t "com/example/syncline/syncline/client/bench/KvWorkload$Tally" "updateAborted" "J" (.long 0) ∧ Fld Z h t "com/example/syncline/syncline/client/bench/KvWorkload$Tally" "readOnlyCommitted" "J" (.long 0) ∧ Fld Z h t "com/example/syncline/syncline/client/bench/KvWorkload$Tally" "readOnlyAborted" "J" (.long 0) ∧ Fld Z h t "com/example/syncline/syncline/client/bench/KvWorkload$Tally" "committedWhileAllRan" "J" (.long 0)
theorem own_TY.keep {Z : State} {n0 : Nat} {h h' : Heap} {t u lo gl : Addr} {ws : List Addr} (Y : own_TY Z n0 h t u lo gl) (K : Keep h h' ws) (q : t ∉ ws) : own_TY Z n0 h' t u lo gl := by
  obtain ⟨E, g, a, b, c, d, e, f, i⟩ := Y
  exact ⟨E.keep K, g, a.keep K q, b.keep K q, c.keep K q, d.keep K q, e.keep K q, f.keep K q, i.keep K q⟩
theorem own_TY.ad {Z : State} {n0 : Nat} {h h' : Heap} {t u lo gl a w : Addr} {n k : Nat} {a0 : Array Value} (Y : own_TY Z n0 h t u lo gl) (D : own_AD h h' a w n) (X : own_LT Z n0 h a w n) (wi : (Jvm.Cond.instantiable "com/example/syncline/syncline/client/bench/KvWorkload$Tally" k).before a0 Z = true) : own_TY Z n0 h' t u lo gl := by
  have ne : t ≠ a := ne_exa Y.1 X.1 (by decide)
  obtain ⟨cl, A⟩ := X.arr
  rcases D with ⟨-, K⟩ | ⟨-, K⟩
  · exact Y.keep K (ninS ne nin0)
  · exact Y.keep K (ninS ne (ninS (ne_arr Y.1 wi A) nin0))
theorem own_sta {Z : State} {h h' : Heap} {a : Addr} {C' C n d : String} {v : Value} (S : Sta Z h C n d v) (K : Keep h h' [a]) (E : Exa Z h a C') : Sta Z h' C n d v := by
  obtain ⟨cf, i, k, f, st, cell, h1, h2, h3, h4, h5, h6, h7⟩ := S
  obtain ⟨c2, k2, g1, g2, g3, g4, g5⟩ := E
  have ne : st ≠ a := fun z => by
    subst z
    cases h5.symm.trans g1
    rw [h6] at g4; cases g4
  exact ⟨cf, i, k, f, st, cell, h1, h2, h3, h4, K.2.1 st cell h5 (ninS ne nin0), h6, h7⟩
theorem own_sta0 {Z : State} {h h' : Heap} {C n d : String} {v : Value} (S : Sta Z h C n d v) (K : Keep h h' []) : Sta Z h' C n d v := by
  obtain ⟨cf, i, k, f, st, cell, h1, h2, h3, h4, h5, h6, h7⟩ := S
  exact ⟨cf, i, k, f, st, cell, h1, h2, h3, h4, K.2.1 st cell h5 nin0, h6, h7⟩
def own_S (Z : State) (n0 : Nat) (h : Heap) (z tA uA lA gA wA : Addr) (n : Nat) (tB uB lB gB wB : Addr) (m : Nat) : Prop := own_TY Z n0 h tA uA lA gA ∧ own_TY Z n0 h tB uB lB gB ∧ own_LT Z n0 h uA wA n ∧ own_LT Z n0 h uB wB m ∧ own_LT Z n0 h lA z 0 ∧ own_LT Z n0 h gA z 0 ∧ own_LT Z n0 h lB z 0 ∧ own_LT Z n0 h gB z 0 ∧ (1 ≤ n → 1 ≤ m → wB ≠ wA) ∧ tB ≠ tA ∧ (lA ≠ uA ∧ gA ≠ uA ∧ gA ≠ lA) ∧ (uB ≠ uA ∧ lB ≠ uA ∧ gB ≠ uA) ∧ (uB ≠ lA ∧ lB ≠ lA ∧ gB ≠ lA) ∧ (uB ≠ gA ∧ lB ≠ gA ∧ gB ≠ gA) ∧ (lB ≠ uB ∧ gB ≠ uB)
theorem own_S.addA {Z : State} {n0 : Nat} {h h' : Heap} {z tA uA lA gA wA : Addr} {n : Nat} {tB uB lB gB wB : Addr} {m : Nat} {w' : Addr} {a0 : Array Value} {k k' : Nat} (wi : (Jvm.Cond.instantiable "com/example/syncline/syncline/client/bench/Latencies" k).before a0 Z = true) (wt : (Jvm.Cond.instantiable "com/example/syncline/syncline/client/bench/KvWorkload$Tally" k').before a0 Z = true) (S : own_S Z n0 h z tA uA lA gA wA n tB uB lB gB wB m) (Q : own_LT Z n0 h' uA w' (n + 1) ∧ own_AD h h' uA wA n ∧ (n = 0 → h.size ≤ w') ∧ (1 ≤ n → w' = wA)) : own_S Z n0 h' z tA uA lA gA w' (n + 1) tB uB lB gB wB m := by
  obtain ⟨TA, TB, XA, XB, XlA, XgA, XlB, XgB, sep, nt, ⟨o1, o2, o3⟩, ⟨o4, o5, o6⟩, o7, o8, o9⟩ := S
  obtain ⟨X', D, r0, r1⟩ := Q
  have no : ∀ {x y : Addr}, 1 ≤ n → 1 ≤ 0 → x ≠ y := fun _ v => absurd v (by decide)
  refine ⟨TA.ad D XA wt, TB.ad D XA wt, X', D.lt XA XB wi o4 sep, D.lt XA XlA wi o1 no, D.lt XA XgA wi o2 no, D.lt XA XlB wi o5 no, D.lt XA XgB wi o6 no, fun _ v => ?_, nt, ⟨o1, o2, o3⟩, ⟨o4, o5, o6⟩, o7, o8, o9⟩
  by_cases hz : n = 0
  · exact Nat.ne_of_lt (Nat.lt_of_lt_of_le XB.wlt (r0 hz))
  · rw [r1 (by omega)]; exact sep (by omega) v
theorem own_S.addB {Z : State} {n0 : Nat} {h h' : Heap} {z tA uA lA gA wA : Addr} {n : Nat} {tB uB lB gB wB : Addr} {m : Nat} {w' : Addr} {a0 : Array Value} {k k' : Nat} (wi : (Jvm.Cond.instantiable "com/example/syncline/syncline/client/bench/Latencies" k).before a0 Z = true) (wt : (Jvm.Cond.instantiable "com/example/syncline/syncline/client/bench/KvWorkload$Tally" k').before a0 Z = true) (S : own_S Z n0 h z tA uA lA gA wA n tB uB lB gB wB m) (Q : own_LT Z n0 h' uB w' (m + 1) ∧ own_AD h h' uB wB m ∧ (m = 0 → h.size ≤ w') ∧ (1 ≤ m → w' = wB)) : own_S Z n0 h' z tA uA lA gA wA n tB uB lB gB w' (m + 1) := by
  obtain ⟨TA, TB, XA, XB, XlA, XgA, XlB, XgB, sep, nt, o1, ⟨o4, o5, o6⟩, ⟨o7, o8, o9⟩, ⟨o10, o11, o12⟩, ⟨o13, o14⟩⟩ := S
  obtain ⟨X', D, r0, r1⟩ := Q
  have no : ∀ {x y : Addr}, 1 ≤ m → 1 ≤ 0 → x ≠ y := fun _ v => absurd v (by decide)
  refine ⟨TA.ad D XB wt, TB.ad D XB wt, D.lt XB XA wi o4.symm (fun u v => (sep v u).symm), X', D.lt XB XlA wi o7.symm no, D.lt XB XgA wi o10.symm no, D.lt XB XlB wi o13 no, D.lt XB XgB wi o14 no, fun v _ => ?_, nt, o1, ⟨o4, o5, o6⟩, ⟨o7, o8, o9⟩, ⟨o10, o11, o12⟩, ⟨o13, o14⟩⟩
  by_cases hz : m = 0
  · exact (Nat.ne_of_lt (Nat.lt_of_lt_of_le XA.wlt (r0 hz))).symm
  · rw [r1 (by omega)]; exact sep v (by omega)
theorem d1_0 : decode prog_25_method_1_code 0 = .ok (.aload_n 0, 1) := by decide +kernel
theorem d1_1 : decode prog_25_method_1_code 1 = .ok (.invokespecial 1, 3) := by decide +kernel
theorem d1_4 : decode prog_25_method_1_code 4 = .ok (.aload_n 0, 1) := by decide +kernel
theorem d1_5 : decode prog_25_method_1_code 5 = .ok (.new 7, 3) := by decide +kernel
theorem d1_8 : decode prog_25_method_1_code 8 = .ok (.dup, 1) := by decide +kernel
theorem d1_9 : decode prog_25_method_1_code 9 = .ok (.invokespecial 9, 3) := by decide +kernel
theorem d1_12 : decode prog_25_method_1_code 12 = .ok (.putfield 10, 3) := by decide +kernel
theorem d1_15 : decode prog_25_method_1_code 15 = .ok (.aload_n 0, 1) := by decide +kernel
theorem d1_16 : decode prog_25_method_1_code 16 = .ok (.new 7, 3) := by decide +kernel
theorem d1_19 : decode prog_25_method_1_code 19 = .ok (.dup, 1) := by decide +kernel
theorem d1_20 : decode prog_25_method_1_code 20 = .ok (.invokespecial 9, 3) := by decide +kernel
theorem d1_23 : decode prog_25_method_1_code 23 = .ok (.putfield 16, 3) := by decide +kernel
theorem d1_26 : decode prog_25_method_1_code 26 = .ok (.aload_n 0, 1) := by decide +kernel
theorem d1_27 : decode prog_25_method_1_code 27 = .ok (.new 7, 3) := by decide +kernel
theorem d1_30 : decode prog_25_method_1_code 30 = .ok (.dup, 1) := by decide +kernel
theorem d1_31 : decode prog_25_method_1_code 31 = .ok (.invokespecial 9, 3) := by decide +kernel
theorem d1_34 : decode prog_25_method_1_code 34 = .ok (.putfield 19, 3) := by decide +kernel
theorem d1_37 : decode prog_25_method_1_code 37 = .ok (.return_, 1) := by decide +kernel
theorem pn_1 : plainName "com/example/syncline/syncline/client/bench/KvWorkload$Tally" = true := by first | (simp [plainName, overriddenIn]; done) | decide +kernel
theorem pd_1_0 : parseMethodDescriptor "()V" = some ⟨[], none⟩ := by decide +kernel
theorem ef_1 (m : MethodId) (x0 : Addr) : entryFrame m #[(.ref x0)] 1 = mkF m 0 #[.val (.ref x0)] [] := by first | (simp [entryFrame, mkF, argsToLocals, Value.category]; done) | rfl
def Q1 (Z : State) (n0 : Nat) (z a1 : Addr) (h0 : Heap) (v : Option Value) (h : Heap) (Lc : List Loc) : Prop := v = none ∧ Fr n0 Lc ∧ ∃ u lo gl : Addr, own_TY Z n0 h a1 u lo gl ∧ own_LT Z n0 h u z 0 ∧ own_LT Z n0 h lo z 0 ∧ own_LT Z n0 h gl z 0 ∧ h0.size ≤ u ∧ u < lo ∧ lo < gl ∧ gl < h.size ∧ Keep h0 h [a1]
set_option maxRecDepth 65536 in
set_option maxHeartbeats 40000000 in
theorem rm1 (l : Launch) (Z : State) (a0 : Array Value) (hw : ∀ d ∈ tables_1, d.before a0 Z = true) (ws : List Jvm.Cond) (a1 z : Addr) (u_updateCommits_a1 : Value) (u_local_a1 : Value) (u_global_a1 : Value) (h0 : Heap) (n0 : Nat) (Z0 : n0 ≤ h0.size) (E_a1 : Exa Z h0 a1 "com/example/syncline/syncline/client/bench/KvWorkload$Tally") (F_updateCommits_a1 : Fld Z h0 a1 "com/example/syncline/syncline/client/bench/KvWorkload$Tally" "updateCommits" "Lcom/example/syncline/syncline/client/bench/Latencies;" u_updateCommits_a1) (g_a1 : n0 ≤ a1) (F_local_a1 : Fld Z h0 a1 "com/example/syncline/syncline/client/bench/KvWorkload$Tally" "local" "Lcom/example/syncline/syncline/client/bench/Latencies;" u_local_a1) (F_global_a1 : Fld Z h0 a1 "com/example/syncline/syncline/client/bench/KvWorkload$Tally" "global" "Lcom/example/syncline/syncline/client/bench/Latencies;" u_global_a1) (SN : Sta Z h0 "com/example/syncline/syncline/client/bench/Latencies" "NONE" "[J" (.ref z)) (V0 : own_AF Z h0 z .long 0 (fun _ => .long 0)) (F_updateAborted_a1 : Fld Z h0 a1 "com/example/syncline/syncline/client/bench/KvWorkload$Tally" "updateAborted" "J" (.long 0)) (F_readOnlyCommitted_a1 : Fld Z h0 a1 "com/example/syncline/syncline/client/bench/KvWorkload$Tally" "readOnlyCommitted" "J" (.long 0)) (F_readOnlyAborted_a1 : Fld Z h0 a1 "com/example/syncline/syncline/client/bench/KvWorkload$Tally" "readOnlyAborted" "J" (.long 0)) (F_committedWhileAllRan_a1 : Fld Z h0 a1 "com/example/syncline/syncline/client/bench/KvWorkload$Tally" "committedWhileAllRan" "J" (.long 0)) :
    MetFree l (⟨"com/example/syncline/syncline/client/bench/KvWorkload$Tally", "<init>", "()V"⟩ : MethodName) (head1 (Jvm.Cond.code (⟨"com/example/syncline/syncline/client/bench/KvWorkload$Tally", "<init>", "()V"⟩ : MethodName) prog_25_method_1_code 1 none :: ws) ({ frames := 2, cells := 3, slots := 6, locals := 26 } : Room)) (fun a U => a = #[(.ref a1)] ∧ Z.Warmed39 U.vm ∧ U.heap = h0) (fun _ _ _ _ _ => True) (fun _ U o U' => ∃ v L, o = .returned v ∧ Q1 Z n0 z a1 h0 v U'.heap L ∧ FrameEnd U o U' L ({ frames := 2, cells := 3, slots := 6, locals := 26 } : Room).cells ({ frames := 2, cells := 3, slots := 6, locals := 26 } : Room).slots) := by
  refine MetFree.of_bodySF (plainFor_of_name pn_1) hisR ?_
  intro p e s m args below meth c s₁ Bd hml0 hP hK
  obtain ⟨rfl, hZ, hh⟩ := hP
  have hx := Bd.exec
  have hby := Bd.bytes
  have hml : c.maxLocals = 1 := hml0
  have hown : s.vm.findClass "com/example/syncline/syncline/client/bench/KvWorkload$Tally" = some m.cls := findClass_of_methodNamed Bd.named
  have hnm := (name_of_methodNamed Bd.named Bd.method).1
  have X0 : Stand p l e ({ frames := 2, cells := 3, slots := 6, locals := 26 } : Room) s m #[(.ref a1)] below meth c s₁ [] 0 0 := Stand.of_body Bd
  have e0 : s₁.heap = h0 := by rw [← hh, Bd.state]; rfl
  have N0 := Fr.nil n0
  have pre0 : ∀ t, Steps p.tables e below (s₁.setTop (mkF m 0 #[.val (.ref a1)] [])) t → Steps p.tables e below (s₁.setTop (entryFrame m #[(.ref a1)] 1)) t := fun t k => castTop (ef_1 m a1) k
  obtain ⟨T2, X2, e2, st2⟩ := initO X0 hx hZ hown (hw _ (List.mem_of_getElem? (i := 7) rfl)) (hw _ (List.mem_of_getElem? (i := 8) rfl)) (hw _ (List.mem_of_getElem? (i := 9) rfl)) e0 (g := (mkF m 1 #[.val (.ref a1)] [(.ref a1)])) rfl (by rw [hml]; rfl) rfl (hb hby d1_1) (by decide) (W := 0) (by show 2 * 0 + _ ≤ _; exact Nat.le_of_eq rfl) (by decide)
  obtain ⟨T3, h3, X3, e3, E3, A3, D3, -, st3⟩ := newO X2 hx hZ hown (hw _ (List.mem_of_getElem? (i := 10) rfl)) (hw _ (List.mem_of_getElem? (i := 11) rfl)) (hw _ (List.mem_of_getElem? (i := 12) rfl)) e2 (g := (mkF m 5 #[.val (.ref a1)] [(.ref a1)])) rfl (hb hby d1_5) (by decide) (by decide)
  obtain ⟨b3, g3⟩ : ∃ z, z = h0.size := ⟨_, rfl⟩
  rw [← g3] at A3 D3 st3
  have F_nanos_b3 : Fld Z h3 b3 "com/example/syncline/syncline/client/bench/Latencies" "nanos" "[J" .null := D3 (Or.inl (hw _ (List.mem_of_getElem? (i := 20) rfl))) (ty := (.array .long)) (by decide)
  have F_count_b3 : Fld Z h3 b3 "com/example/syncline/syncline/client/bench/Latencies" "count" "I" (.int (0 : Int32)) := D3 (Or.inl (hw _ (List.mem_of_getElem? (i := 38) rfl))) (ty := .int) (by decide)
  have E_b3 := A3
  have g_b3 : n0 ≤ b3 := Nat.le_trans Z0 (Nat.le_of_eq g3.symm)
  have sz_b3 : h0.size ≤ b3 := (Nat.le_trans (Keep.refl h0 [a1]).1 (Nat.le_of_eq g3.symm))
  have K3 : Keep h0 h3 [a1] := (Keep.refl h0 [a1]).ext E3
  obtain ⟨_, _, ⟨T4, L4, k4, n4⟩, -, X4, ⟨Lc4, hQ4, l4, y4, z4⟩, st4⟩ := X3.specialBack hx (y := (⟨"com/example/syncline/syncline/client/bench/Latencies", "<init>", "()V"⟩ : MethodName)) rfl hown (mvT hZ (hw _ (List.mem_of_getElem? (i := 13) rfl))) (mvT hZ (hw _ (List.mem_of_getElem? (i := 14) rfl))) (mvT hZ (hw _ (List.mem_of_getElem? (i := 15) rfl))) (by decide) (backOf (W := 2) (rm3 l Z a0 hw [] b3 z .null h3 n0 (Nat.le_trans Z0 K3.1) (own_sta SN K3 E_a1) E_b3 F_nanos_b3 g_b3 F_count_b3) hZ (hw _ (List.mem_of_getElem? (i := 15) rfl)) (hw _ (List.mem_of_getElem? (i := 12) rfl)) (by decide) (by decide)) (g := (mkF m 9 #[.val (.ref a1)] [(.ref b3), (.ref b3), (.ref a1)])) rfl (by rw [hml]; rfl) (Steps.refl _) (a := b3) (argsL := []) (rest := [(.ref b3), (.ref a1)]) (lenOf pd_1_0 rfl) rfl (by show 2 * 0 + _ ≤ _; exact Nat.le_of_eq rfl) (hb hby d1_9) (fun _ _ => ⟨rfl, e3, (by decide : 1 + 0 ≤ _), (by decide : 2 + 0 ≤ _)⟩)
  dsimp only [Pt.U, Pt.locs, Pt.cells, Pt.slots] at X4 l4 y4 z4 st4 hQ4
  subst l4 y4 z4
  obtain ⟨rfl, N4q, K4, E4, Fn4, Fc4⟩ := hQ4
  have nn3 : a1 ∉ [b3] := ninS (Nat.ne_of_lt (Nat.lt_of_lt_of_le E_a1.lt sz_b3)) nin0
  have KT4 : Keep h0 T4.heap [a1] := K3.trans K4 (allS (Or.inr sz_b3) all0)
  have N4 := Fr.app N0 N4q
  obtain ⟨T5, h5, X5, e5, W5, st5⟩ := putF X4 hx hZ hown (host := "") (Or.inl (hw _ (List.mem_of_getElem? (i := 21) rfl))) Via.refl rfl ((F_updateCommits_a1.ext E3).keep K4 nn3) ((E_a1.ext E3).keep K4) (Or.inr ⟨(hw _ (List.mem_of_getElem? (i := 22) rfl)), rfl, hnm⟩) (hw _ (List.mem_of_getElem? (i := 2) rfl)) (ty := (.object "com/example/syncline/syncline/client/bench/Latencies")) (by decide) rfl rfl (g := (mkF m 12 #[.val (.ref a1)] [(.ref b3), (.ref a1)])) rfl rfl (hb hby d1_12)
  have Fw5 := ((F_updateCommits_a1.ext E3).keep K4 nn3).same W5
  have K5 : Keep h0 h5 [a1] := KT4.wr W5 (Or.inl (List.mem_of_getElem? (i := 0) rfl))
  have N5 := Fr.snoc X5 N4 g_a1
  obtain ⟨T6, h6, X6, e6, E6, A6, D6, -, st6⟩ := newO X5 hx hZ hown (hw _ (List.mem_of_getElem? (i := 10) rfl)) (hw _ (List.mem_of_getElem? (i := 11) rfl)) (hw _ (List.mem_of_getElem? (i := 12) rfl)) e5 (g := (mkF m 16 #[.val (.ref a1)] [(.ref a1)])) rfl (hb hby d1_16) (by decide) (by decide)
  obtain ⟨b6, g6⟩ : ∃ z, z = h5.size := ⟨_, rfl⟩
  rw [← g6] at A6 D6 st6
  have F_nanos_b6 : Fld Z h6 b6 "com/example/syncline/syncline/client/bench/Latencies" "nanos" "[J" .null := D6 (Or.inl (hw _ (List.mem_of_getElem? (i := 20) rfl))) (ty := (.array .long)) (by decide)
  have F_count_b6 : Fld Z h6 b6 "com/example/syncline/syncline/client/bench/Latencies" "count" "I" (.int (0 : Int32)) := D6 (Or.inl (hw _ (List.mem_of_getElem? (i := 38) rfl))) (ty := .int) (by decide)
  have E_b6 := A6
  have g_b6 : n0 ≤ b6 := Nat.le_trans (Nat.le_trans (Nat.le_trans (Nat.le_trans Z0 E3.1) K4.1) (Keep.of_wr W5).1) (Nat.le_of_eq g6.symm)
  have sz_b6 : h0.size ≤ b6 := (Nat.le_trans K5.1 (Nat.le_of_eq g6.symm))
  have K6 : Keep h0 h6 [a1] := K5.ext E6
  obtain ⟨_, _, ⟨T7, L7, k7, n7⟩, -, X7, ⟨Lc7, hQ7, l7, y7, z7⟩, st7⟩ := X6.specialBack hx (y := (⟨"com/example/syncline/syncline/client/bench/Latencies", "<init>", "()V"⟩ : MethodName)) rfl hown (mvT hZ (hw _ (List.mem_of_getElem? (i := 13) rfl))) (mvT hZ (hw _ (List.mem_of_getElem? (i := 14) rfl))) (mvT hZ (hw _ (List.mem_of_getElem? (i := 15) rfl))) (by decide) (backOf (W := 2) (rm3 l Z a0 hw [] b6 z .null h6 n0 (Nat.le_trans Z0 K6.1) (own_sta SN K6 E_a1) E_b6 F_nanos_b6 g_b6 F_count_b6) hZ (hw _ (List.mem_of_getElem? (i := 15) rfl)) (hw _ (List.mem_of_getElem? (i := 12) rfl)) (by decide) (by decide)) (g := (mkF m 20 #[.val (.ref a1)] [(.ref b6), (.ref b6), (.ref a1)])) rfl (by rw [hml]; rfl) (Steps.refl _) (a := b6) (argsL := []) (rest := [(.ref b6), (.ref a1)]) (lenOf pd_1_0 rfl) rfl (by show 2 * 0 + _ ≤ _; exact Nat.le_of_eq rfl) (hb hby d1_20) (fun _ _ => ⟨rfl, e6, (by decide : 2 + 0 ≤ _), (by decide : 4 + 0 ≤ _)⟩)
  dsimp only [Pt.U, Pt.locs, Pt.cells, Pt.slots] at X7 l7 y7 z7 st7 hQ7
  subst l7 y7 z7
  obtain ⟨rfl, N7q, K7, E7, Fn7, Fc7⟩ := hQ7
  have nn6 : a1 ∉ [b6] := ninS (Nat.ne_of_lt (Nat.lt_of_lt_of_le E_a1.lt sz_b6)) nin0
  have KT7 : Keep h0 T7.heap [a1] := K6.trans K7 (allS (Or.inr sz_b6) all0)
  have N7 := Fr.app N5 N7q
  obtain ⟨T8, h8, X8, e8, W8, st8⟩ := putF X7 hx hZ hown (host := "") (Or.inl (hw _ (List.mem_of_getElem? (i := 23) rfl))) Via.refl rfl (((((F_local_a1.ext E3).keep K4 nn3).other W5 (Or.inr (slot_ne (Or.inr (hw _ (List.mem_of_getElem? (i := 24) rfl))) (Or.inr (hw _ (List.mem_of_getElem? (i := 22) rfl))) (by decide) (t := (.object "com/example/syncline/syncline/client/bench/Latencies")) (t' := (.object "com/example/syncline/syncline/client/bench/Latencies")) (by decide) (by decide)))).ext E6).keep K7 nn6) (((((E_a1.ext E3).keep K4).wr W5).ext E6).keep K7) (Or.inr ⟨(hw _ (List.mem_of_getElem? (i := 24) rfl)), rfl, hnm⟩) (hw _ (List.mem_of_getElem? (i := 2) rfl)) (ty := (.object "com/example/syncline/syncline/client/bench/Latencies")) (by decide) rfl rfl (g := (mkF m 23 #[.val (.ref a1)] [(.ref b6), (.ref a1)])) rfl rfl (hb hby d1_23)
  have Fw8 := (((((F_local_a1.ext E3).keep K4 nn3).other W5 (Or.inr (slot_ne (Or.inr (hw _ (List.mem_of_getElem? (i := 24) rfl))) (Or.inr (hw _ (List.mem_of_getElem? (i := 22) rfl))) (by decide) (t := (.object "com/example/syncline/syncline/client/bench/Latencies")) (t' := (.object "com/example/syncline/syncline/client/bench/Latencies")) (by decide) (by decide)))).ext E6).keep K7 nn6).same W8
  have K8 : Keep h0 h8 [a1] := KT7.wr W8 (Or.inl (List.mem_of_getElem? (i := 0) rfl))
  have N8 := Fr.snoc X8 N7 g_a1
  obtain ⟨T9, h9, X9, e9, E9, A9, D9, -, st9⟩ := newO X8 hx hZ hown (hw _ (List.mem_of_getElem? (i := 10) rfl)) (hw _ (List.mem_of_getElem? (i := 11) rfl)) (hw _ (List.mem_of_getElem? (i := 12) rfl)) e8 (g := (mkF m 27 #[.val (.ref a1)] [(.ref a1)])) rfl (hb hby d1_27) (by decide) (by decide)
  obtain ⟨b9, g9⟩ : ∃ z, z = h8.size := ⟨_, rfl⟩
  rw [← g9] at A9 D9 st9
  have F_nanos_b9 : Fld Z h9 b9 "com/example/syncline/syncline/client/bench/Latencies" "nanos" "[J" .null := D9 (Or.inl (hw _ (List.mem_of_getElem? (i := 20) rfl))) (ty := (.array .long)) (by decide)
  have F_count_b9 : Fld Z h9 b9 "com/example/syncline/syncline/client/bench/Latencies" "count" "I" (.int (0 : Int32)) := D9 (Or.inl (hw _ (List.mem_of_getElem? (i := 38) rfl))) (ty := .int) (by decide)
  have E_b9 := A9
  have g_b9 : n0 ≤ b9 := Nat.le_trans (Nat.le_trans (Nat.le_trans (Nat.le_trans (Nat.le_trans (Nat.le_trans (Nat.le_trans Z0 E3.1) K4.1) (Keep.of_wr W5).1) E6.1) K7.1) (Keep.of_wr W8).1) (Nat.le_of_eq g9.symm)
  have sz_b9 : h0.size ≤ b9 := (Nat.le_trans K8.1 (Nat.le_of_eq g9.symm))
  have K9 : Keep h0 h9 [a1] := K8.ext E9
  obtain ⟨_, _, ⟨T10, L10, k10, n10⟩, -, X10, ⟨Lc10, hQ10, l10, y10, z10⟩, st10⟩ := X9.specialBack hx (y := (⟨"com/example/syncline/syncline/client/bench/Latencies", "<init>", "()V"⟩ : MethodName)) rfl hown (mvT hZ (hw _ (List.mem_of_getElem? (i := 13) rfl))) (mvT hZ (hw _ (List.mem_of_getElem? (i := 14) rfl))) (mvT hZ (hw _ (List.mem_of_getElem? (i := 15) rfl))) (by decide) (backOf (W := 2) (rm3 l Z a0 hw [] b9 z .null h9 n0 (Nat.le_trans Z0 K9.1) (own_sta SN K9 E_a1) E_b9 F_nanos_b9 g_b9 F_count_b9) hZ (hw _ (List.mem_of_getElem? (i := 15) rfl)) (hw _ (List.mem_of_getElem? (i := 12) rfl)) (by decide) (by decide)) (g := (mkF m 31 #[.val (.ref a1)] [(.ref b9), (.ref b9), (.ref a1)])) rfl (by rw [hml]; rfl) (Steps.refl _) (a := b9) (argsL := []) (rest := [(.ref b9), (.ref a1)]) (lenOf pd_1_0 rfl) rfl (by show 2 * 0 + _ ≤ _; exact Nat.le_of_eq rfl) (hb hby d1_31) (fun _ _ => ⟨rfl, e9, (by decide : 3 + 0 ≤ _), (by decide : 6 + 0 ≤ _)⟩)
  dsimp only [Pt.U, Pt.locs, Pt.cells, Pt.slots] at X10 l10 y10 z10 st10 hQ10
  subst l10 y10 z10
  obtain ⟨rfl, N10q, K10, E10, Fn10, Fc10⟩ := hQ10
  have nn9 : a1 ∉ [b9] := ninS (Nat.ne_of_lt (Nat.lt_of_lt_of_le E_a1.lt sz_b9)) nin0
  have KT10 : Keep h0 T10.heap [a1] := K9.trans K10 (allS (Or.inr sz_b9) all0)
  have N10 := Fr.app N8 N10q
  obtain ⟨T11, h11, X11, e11, W11, st11⟩ := putF X10 hx hZ hown (host := "") (Or.inl (hw _ (List.mem_of_getElem? (i := 25) rfl))) Via.refl rfl ((((((((F_global_a1.ext E3).keep K4 nn3).other W5 (Or.inr (slot_ne (Or.inr (hw _ (List.mem_of_getElem? (i := 26) rfl))) (Or.inr (hw _ (List.mem_of_getElem? (i := 22) rfl))) (by decide) (t := (.object "com/example/syncline/syncline/client/bench/Latencies")) (t' := (.object "com/example/syncline/syncline/client/bench/Latencies")) (by decide) (by decide)))).ext E6).keep K7 nn6).other W8 (Or.inr (slot_ne (Or.inr (hw _ (List.mem_of_getElem? (i := 26) rfl))) (Or.inr (hw _ (List.mem_of_getElem? (i := 24) rfl))) (by decide) (t := (.object "com/example/syncline/syncline/client/bench/Latencies")) (t' := (.object "com/example/syncline/syncline/client/bench/Latencies")) (by decide) (by decide)))).ext E9).keep K10 nn9) ((((((((E_a1.ext E3).keep K4).wr W5).ext E6).keep K7).wr W8).ext E9).keep K10) (Or.inr ⟨(hw _ (List.mem_of_getElem? (i := 26) rfl)), rfl, hnm⟩) (hw _ (List.mem_of_getElem? (i := 2) rfl)) (ty := (.object "com/example/syncline/syncline/client/bench/Latencies")) (by decide) rfl rfl (g := (mkF m 34 #[.val (.ref a1)] [(.ref b9), (.ref a1)])) rfl rfl (hb hby d1_34)
  have Fw11 := ((((((((F_global_a1.ext E3).keep K4 nn3).other W5 (Or.inr (slot_ne (Or.inr (hw _ (List.mem_of_getElem? (i := 26) rfl))) (Or.inr (hw _ (List.mem_of_getElem? (i := 22) rfl))) (by decide) (t := (.object "com/example/syncline/syncline/client/bench/Latencies")) (t' := (.object "com/example/syncline/syncline/client/bench/Latencies")) (by decide) (by decide)))).ext E6).keep K7 nn6).other W8 (Or.inr (slot_ne (Or.inr (hw _ (List.mem_of_getElem? (i := 26) rfl))) (Or.inr (hw _ (List.mem_of_getElem? (i := 24) rfl))) (by decide) (t := (.object "com/example/syncline/syncline/client/bench/Latencies")) (t' := (.object "com/example/syncline/syncline/client/bench/Latencies")) (by decide) (by decide)))).ext E9).keep K10 nn9).same W11
  have K11 : Keep h0 h11 [a1] := KT10.wr W11 (Or.inl (List.mem_of_getElem? (i := 0) rfl))
  have N11 := Fr.snoc X11 N10 g_a1
  obtain ⟨fs, hr, hrun, hended, hW, hsame⟩ := X11.leave (v := none) (fun _ => rfl)
  refine ⟨_, _, pre0 _ ?_, hrun, hended, _, _, rfl, ?_, ⟨_, rfl⟩, hW, hsame.mono (by decide) (by decide)⟩
  · show Steps p.tables e below (s₁.setTop (mkF m 0 #[.val (.ref a1)] [])) _
    refine XS.aloadN X0.here hx rfl (hb hby d1_0) rfl rfl ?_
    show Steps p.tables e below (s₁.setTop (mkF m 1 #[.val (.ref a1)] [(.ref a1)])) _
    refine st2 _ ?_
    show Steps p.tables e below (T2.setTop (mkF m 4 #[.val (.ref a1)] [])) _
    refine XS.aloadN X2.here hx rfl (hb hby d1_4) rfl rfl ?_
    show Steps p.tables e below (T2.setTop (mkF m 5 #[.val (.ref a1)] [(.ref a1)])) _
    refine st3 _ ?_
    show Steps p.tables e below (T3.setTop (mkF m 8 #[.val (.ref a1)] [(.ref b3), (.ref a1)])) _
    refine XS.dup X3.here hx rfl (hb hby d1_8) rfl rfl ?_
    show Steps p.tables e below (T3.setTop (mkF m 9 #[.val (.ref a1)] [(.ref b3), (.ref b3), (.ref a1)])) _
    refine st4.trans ?_
    show Steps p.tables e below (T4.setTop (mkF m 12 #[.val (.ref a1)] [(.ref b3), (.ref a1)])) _
    refine st5 _ ?_
    show Steps p.tables e below (T5.setTop (mkF m 15 #[.val (.ref a1)] [])) _
    refine XS.aloadN X5.here hx rfl (hb hby d1_15) rfl rfl ?_
    show Steps p.tables e below (T5.setTop (mkF m 16 #[.val (.ref a1)] [(.ref a1)])) _
    refine st6 _ ?_
    show Steps p.tables e below (T6.setTop (mkF m 19 #[.val (.ref a1)] [(.ref b6), (.ref a1)])) _
    refine XS.dup X6.here hx rfl (hb hby d1_19) rfl rfl ?_
    show Steps p.tables e below (T6.setTop (mkF m 20 #[.val (.ref a1)] [(.ref b6), (.ref b6), (.ref a1)])) _
    refine st7.trans ?_
    show Steps p.tables e below (T7.setTop (mkF m 23 #[.val (.ref a1)] [(.ref b6), (.ref a1)])) _
    refine st8 _ ?_
    show Steps p.tables e below (T8.setTop (mkF m 26 #[.val (.ref a1)] [])) _
    refine XS.aloadN X8.here hx rfl (hb hby d1_26) rfl rfl ?_
    show Steps p.tables e below (T8.setTop (mkF m 27 #[.val (.ref a1)] [(.ref a1)])) _
    refine st9 _ ?_
    show Steps p.tables e below (T9.setTop (mkF m 30 #[.val (.ref a1)] [(.ref b9), (.ref a1)])) _
    refine XS.dup X9.here hx rfl (hb hby d1_30) rfl rfl ?_
    show Steps p.tables e below (T9.setTop (mkF m 31 #[.val (.ref a1)] [(.ref b9), (.ref b9), (.ref a1)])) _
    refine st10.trans ?_
    show Steps p.tables e below (T10.setTop (mkF m 34 #[.val (.ref a1)] [(.ref b9), (.ref a1)])) _
    refine st11 _ ?_
    show Steps p.tables e below (T11.setTop (mkF m 37 #[.val (.ref a1)] [])) _
    exact X11.returnOut hx Bd.returns (hb hby d1_37) hr
  · show Q1 Z n0 z a1 h0 _ T11.heap _
    rw [e11]
    have s4 : T4.heap.size ≤ b6 := Nat.le_of_eq (W5.size.symm.trans g6.symm)
    have s7 : T7.heap.size ≤ b9 := Nat.le_of_eq (W8.size.symm.trans g9.symm)
    have KK10 : Keep T10.heap h11 [a1] := Keep.of_wr W11
    have KK7 : Keep T7.heap h11 [a1] := (((Keep.of_wr W8).ext E9).trans K10 (allS (Or.inr s7) all0)).trans KK10 (allS (Or.inl (List.mem_singleton.mpr rfl)) all0)
    have K47 : Keep T4.heap T7.heap [a1] := ((Keep.of_wr W5).ext E6).trans K7 (allS (Or.inr s4) all0)
    have KK4 : Keep T4.heap h11 [a1] := K47.trans KK7 (allS (Or.inl (List.mem_singleton.mpr rfl)) all0)
    have nz : z ∉ [a1] := ninS (fun q => by obtain ⟨-, cl, A, -⟩ := V0; exact ne_arr E_a1 (hw _ (List.mem_of_getElem? (i := 2) rfl)) A q.symm) nin0
    have V11 := V0.keep K11 nz
    have n3 : b3 ∉ [a1] := ninS (Nat.ne_of_lt (Nat.lt_of_lt_of_le E_a1.lt sz_b3)).symm nin0
    have n6 : b6 ∉ [a1] := ninS (Nat.ne_of_lt (Nat.lt_of_lt_of_le E_a1.lt sz_b6)).symm nin0
    have n9 : b9 ∉ [a1] := ninS (Nat.ne_of_lt (Nat.lt_of_lt_of_le E_a1.lt sz_b9)).symm nin0
    refine ⟨rfl, N11, b3, b6, b9, ⟨((((((((E_a1.ext E3).keep K4).wr W5).ext E6).keep K7).wr W8).ext E9).keep K10).wr W11, g_a1, ?_, ?_, Fw11, ?_, ?_, ?_, ?_⟩, ⟨E4.keep KK4, Fc4.keep KK4 n3, Fn4.keep KK4 n3, g_b3, by decide, Or.inl ⟨rfl, V11⟩⟩, ⟨E7.keep KK7, Fc7.keep KK7 n6, Fn7.keep KK7 n6, g_b6, by decide, Or.inl ⟨rfl, V11⟩⟩, ⟨E10.keep KK10, Fc10.keep KK10 n9, Fn10.keep KK10 n9, g_b9, by decide, Or.inl ⟨rfl, V11⟩⟩, sz_b3, Nat.lt_of_lt_of_le E4.lt s4, Nat.lt_of_lt_of_le E7.lt s7, Nat.lt_of_lt_of_le E10.lt (Nat.le_of_eq W11.size.symm), K11⟩
    · exact ((((Fw5.ext E6).keep K7 nn6).other W8 (Or.inr (slot_ne (Or.inr (hw _ (List.mem_of_getElem? (i := 22) rfl))) (Or.inr (hw _ (List.mem_of_getElem? (i := 24) rfl))) (by decide) (t := (.object "com/example/syncline/syncline/client/bench/Latencies")) (t' := (.object "com/example/syncline/syncline/client/bench/Latencies")) (by decide) (by decide)))).ext E9).keep K10 nn9 |>.other W11 (Or.inr (slot_ne (Or.inr (hw _ (List.mem_of_getElem? (i := 22) rfl))) (Or.inr (hw _ (List.mem_of_getElem? (i := 26) rfl))) (by decide) (t := (.object "com/example/syncline/syncline/client/bench/Latencies")) (t' := (.object "com/example/syncline/syncline/client/bench/Latencies")) (by decide) (by decide)))
    · exact ((Fw8.ext E9).keep K10 nn9).other W11 (Or.inr (slot_ne (Or.inr (hw _ (List.mem_of_getElem? (i := 24) rfl))) (Or.inr (hw _ (List.mem_of_getElem? (i := 26) rfl))) (by decide) (t := (.object "com/example/syncline/syncline/client/bench/Latencies")) (t' := (.object "com/example/syncline/syncline/client/bench/Latencies")) (by decide) (by decide)))
    · exact ((((((((F_updateAborted_a1.ext E3).keep K4 nn3).other W5 (Or.inr (slot_ne (Or.inl (hw _ (List.mem_of_getElem? (i := 52) rfl))) (Or.inr (hw _ (List.mem_of_getElem? (i := 22) rfl))) (by decide) (t := .long) (t' := (.object "com/example/syncline/syncline/client/bench/Latencies")) (by decide) (by decide)))).ext E6).keep K7 nn6).other W8 (Or.inr (slot_ne (Or.inl (hw _ (List.mem_of_getElem? (i := 52) rfl))) (Or.inr (hw _ (List.mem_of_getElem? (i := 24) rfl))) (by decide) (t := .long) (t' := (.object "com/example/syncline/syncline/client/bench/Latencies")) (by decide) (by decide)))).ext E9).keep K10 nn9).other W11 (Or.inr (slot_ne (Or.inl (hw _ (List.mem_of_getElem? (i := 52) rfl))) (Or.inr (hw _ (List.mem_of_getElem? (i := 26) rfl))) (by decide) (t := .long) (t' := (.object "com/example/syncline/syncline/client/bench/Latencies")) (by decide) (by decide)))
    · exact ((((((((F_readOnlyCommitted_a1.ext E3).keep K4 nn3).other W5 (Or.inr (slot_ne (Or.inl (hw _ (List.mem_of_getElem? (i := 40) rfl))) (Or.inr (hw _ (List.mem_of_getElem? (i := 22) rfl))) (by decide) (t := .long) (t' := (.object "com/example/syncline/syncline/client/bench/Latencies")) (by decide) (by decide)))).ext E6).keep K7 nn6).other W8 (Or.inr (slot_ne (Or.inl (hw _ (List.mem_of_getElem? (i := 40) rfl))) (Or.inr (hw _ (List.mem_of_getElem? (i := 24) rfl))) (by decide) (t := .long) (t' := (.object "com/example/syncline/syncline/client/bench/Latencies")) (by decide) (by decide)))).ext E9).keep K10 nn9).other W11 (Or.inr (slot_ne (Or.inl (hw _ (List.mem_of_getElem? (i := 40) rfl))) (Or.inr (hw _ (List.mem_of_getElem? (i := 26) rfl))) (by decide) (t := .long) (t' := (.object "com/example/syncline/syncline/client/bench/Latencies")) (by decide) (by decide)))
    · exact ((((((((F_readOnlyAborted_a1.ext E3).keep K4 nn3).other W5 (Or.inr (slot_ne (Or.inl (hw _ (List.mem_of_getElem? (i := 54) rfl))) (Or.inr (hw _ (List.mem_of_getElem? (i := 22) rfl))) (by decide) (t := .long) (t' := (.object "com/example/syncline/syncline/client/bench/Latencies")) (by decide) (by decide)))).ext E6).keep K7 nn6).other W8 (Or.inr (slot_ne (Or.inl (hw _ (List.mem_of_getElem? (i := 54) rfl))) (Or.inr (hw _ (List.mem_of_getElem? (i := 24) rfl))) (by decide) (t := .long) (t' := (.object "com/example/syncline/syncline/client/bench/Latencies")) (by decide) (by decide)))).ext E9).keep K10 nn9).other W11 (Or.inr (slot_ne (Or.inl (hw _ (List.mem_of_getElem? (i := 54) rfl))) (Or.inr (hw _ (List.mem_of_getElem? (i := 26) rfl))) (by decide) (t := .long) (t' := (.object "com/example/syncline/syncline/client/bench/Latencies")) (by decide) (by decide)))
    · exact ((((((((F_committedWhileAllRan_a1.ext E3).keep K4 nn3).other W5 (Or.inr (slot_ne (Or.inl (hw _ (List.mem_of_getElem? (i := 56) rfl))) (Or.inr (hw _ (List.mem_of_getElem? (i := 22) rfl))) (by decide) (t := .long) (t' := (.object "com/example/syncline/syncline/client/bench/Latencies")) (by decide) (by decide)))).ext E6).keep K7 nn6).other W8 (Or.inr (slot_ne (Or.inl (hw _ (List.mem_of_getElem? (i := 56) rfl))) (Or.inr (hw _ (List.mem_of_getElem? (i := 24) rfl))) (by decide) (t := .long) (t' := (.object "com/example/syncline/syncline/client/bench/Latencies")) (by decide) (by decide)))).ext E9).keep K10 nn9).other W11 (Or.inr (slot_ne (Or.inl (hw _ (List.mem_of_getElem? (i := 56) rfl))) (Or.inr (hw _ (List.mem_of_getElem? (i := 26) rfl))) (by decide) (t := .long) (t' := (.object "com/example/syncline/syncline/client/bench/Latencies")) (by decide) (by decide)))
theorem d6_0 : decode prog_25_method_5_code 0 = .ok (.aload_n 0, 1) := by decide +kernel
theorem d6_1 : decode prog_25_method_5_code 1 = .ok (.getfield 10, 3) := by decide +kernel
theorem d6_4 : decode prog_25_method_5_code 4 = .ok (.aload_n 1, 1) := by decide +kernel
theorem d6_5 : decode prog_25_method_5_code 5 = .ok (.getfield 10, 3) := by decide +kernel
theorem d6_8 : decode prog_25_method_5_code 8 = .ok (.invokevirtual 40, 3) := by decide +kernel
theorem pd_6_4 : parseMethodDescriptor "(Lcom/example/syncline/syncline/client/bench/Latencies;)V" = some ⟨[(.object "com/example/syncline/syncline/client/bench/Latencies")], none⟩ := by decide +kernel
set_option maxRecDepth 65536 in
set_option maxHeartbeats 40000000 in
theorem tn6_0_11 {p : Program} {l : Launch} {e : Env} {s : State} {m : MethodId} {args : Array Value} {below : List Frame} {meth : Method} {c : Code} {T0 : State} {locs : List Loc} {Z : State} {a0 : Array Value} {h0 : Heap} {n0 : Nat} (o0 : Addr) (o1 : Addr) (w3 : Addr) (w5 : Addr) (wa wb : Addr) (n mm : Nat)
    (X0 : Stand p l e ({ frames := 4, cells := 6, slots := 24, locals := 61 } : Room) s m args below meth c T0 locs 0 0) (hx : p.tables.exec = Jvm.exec) (hZ : Z.Warmed39 s.vm) (hw : ∀ d ∈ tables_1, d.before a0 Z = true) (hby : c.code = prog_25_method_5_code) (hml : c.maxLocals = 2) (hown : s.vm.findClass "com/example/syncline/syncline/client/bench/KvWorkload$Tally" = some m.cls) (e0 : T0.heap = h0) (N0 : Fr n0 locs) (Z0 : n0 ≤ h0.size) (F_updateCommits_o0 : Fld Z h0 o0 "com/example/syncline/syncline/client/bench/KvWorkload$Tally" "updateCommits" "Lcom/example/syncline/syncline/client/bench/Latencies;" (.ref w3)) (F_updateCommits_o1 : Fld Z h0 o1 "com/example/syncline/syncline/client/bench/KvWorkload$Tally" "updateCommits" "Lcom/example/syncline/syncline/client/bench/Latencies;" (.ref w5)) (E_w3 : Exa Z h0 w3 "com/example/syncline/syncline/client/bench/Latencies") (XA : own_LT Z n0 h0 w3 wa n) (XB : own_LT Z n0 h0 w5 wb mm) (ab : w5 ≠ w3) (hm2 : mm ≤ 2) (hnm : n + mm ≤ 4) (sep : 1 ≤ n → 1 ≤ mm → wb ≠ wa) :
    ∃ (T' : State) (h' : Heap) (locs' : List Loc), Stand p l e ({ frames := 4, cells := 6, slots := 24, locals := 61 } : Room) s m args below meth c T' locs' 2 8 ∧ T'.heap = h' ∧ Fr n0 locs' ∧ n0 ≤ h'.size ∧ (∃ w', own_LT Z n0 h' w3 w' (n + mm) ∧ own_LT Z n0 h' w5 wb mm ∧ own_AD h0 h' w3 wa n) ∧
      ∀ target, Steps p.tables e below (T'.setTop (mkF m 11 #[.val (.ref o0), .val (.ref o1)] [])) target → Steps p.tables e below (T0.setTop (mkF m 0 #[.val (.ref o0), .val (.ref o1)] [])) target := by
  obtain ⟨T4, X4, e4, st4⟩ := getF X0 hx hZ hown (host := "") (Or.inl (hw _ (List.mem_of_getElem? (i := 21) rfl))) Via.refl e0 F_updateCommits_o0 (g := (mkF m 1 #[.val (.ref o0), .val (.ref o1)] [(.ref o0)])) rfl rfl (hb hby d6_1)
  obtain ⟨T6, X6, e6, st6⟩ := getF X4 hx hZ hown (host := "") (Or.inl (hw _ (List.mem_of_getElem? (i := 21) rfl))) Via.refl e4 F_updateCommits_o1 (g := (mkF m 5 #[.val (.ref o0), .val (.ref o1)] [(.ref o1), (.ref w3)])) rfl rfl (hb hby d6_5)
  obtain ⟨cq7, kq7, q7a, q7b, q7c⟩ := isOf hZ e6 E_w3
  obtain ⟨_, _, ⟨T7, L7, k7, n7⟩, -, X7, ⟨Lc7, hQ7, l7, y7, z7⟩, st7⟩ := X6.virtualBack hx (y := (⟨"com/example/syncline/syncline/client/bench/Latencies", "addAll", "(Lcom/example/syncline/syncline/client/bench/Latencies;)V"⟩ : MethodName)) (z := (⟨"com/example/syncline/syncline/client/bench/Latencies", "addAll", "(Lcom/example/syncline/syncline/client/bench/Latencies;)V"⟩ : MethodName)) hown (mvT hZ (hw _ (List.mem_of_getElem? (i := 46) rfl))) (mvT hZ (hw _ (List.mem_of_getElem? (i := 47) rfl))) (notFace_of_selects (args := #[]) (mvT hZ (hw _ (List.mem_of_getElem? (i := 49) rfl)))) (mvT hZ (hw _ (List.mem_of_getElem? (i := 49) rfl))) (mvT hZ (hw _ (List.mem_of_getElem? (i := 48) rfl))) (by decide) (backOf (W := 0) (rm7 l Z a0 hw [] w3 w5 wa wb n mm h0 n0 Z0 XA XB ab hm2 hnm sep) hZ (hw _ (List.mem_of_getElem? (i := 50) rfl)) (hw _ (List.mem_of_getElem? (i := 12) rfl)) (by decide) (by decide)) q7a q7c (g := (mkF m 8 #[.val (.ref o0), .val (.ref o1)] [(.ref w5), (.ref w3)])) rfl (by rw [hml]; rfl) (Steps.refl _) (argsL := [(.ref w5)]) (rest := []) (lenOf pd_6_4 rfl) rfl (by show 2 * 0 + _ ≤ _; exact Nat.le_of_eq rfl) (hb hby d6_8) (fun _ _ => ⟨rfl, e6, (Nat.le_of_ble_eq_true rfl), (Nat.le_of_ble_eq_true rfl)⟩)
  dsimp only [Pt.U, Pt.locs, Pt.cells, Pt.slots] at X7 l7 y7 z7 st7 hQ7
  subst l7 y7 z7
  obtain ⟨rfl, N7q, q7⟩ := hQ7
  have N7 := Fr.app N0 N7q
  refine ⟨T7, _, _, X7, rfl, N7, (Nat.le_trans Z0 q7.choose_spec.2.2.size), q7, fun target kt => ?_⟩
  show Steps p.tables e below (T0.setTop (mkF m 0 #[.val (.ref o0), .val (.ref o1)] [])) _
  refine XS.aloadN X0.here hx rfl (hb hby d6_0) rfl rfl ?_
  show Steps p.tables e below (T0.setTop (mkF m 1 #[.val (.ref o0), .val (.ref o1)] [(.ref o0)])) _
  refine st4 _ ?_
  show Steps p.tables e below (T4.setTop (mkF m 4 #[.val (.ref o0), .val (.ref o1)] [(.ref w3)])) _
  refine XS.aloadN X4.here hx rfl (hb hby d6_4) rfl rfl ?_
  show Steps p.tables e below (T4.setTop (mkF m 5 #[.val (.ref o0), .val (.ref o1)] [(.ref o1), (.ref w3)])) _
  refine st6 _ ?_
  show Steps p.tables e below (T6.setTop (mkF m 8 #[.val (.ref o0), .val (.ref o1)] [(.ref w5), (.ref w3)])) _
  refine st7.trans ?_
  exact kt
theorem d6_11 : decode prog_25_method_5_code 11 = .ok (.aload_n 0, 1) := by decide +kernel
theorem d6_12 : decode prog_25_method_5_code 12 = .ok (.getfield 16, 3) := by decide +kernel
theorem d6_15 : decode prog_25_method_5_code 15 = .ok (.aload_n 1, 1) := by decide +kernel
theorem d6_16 : decode prog_25_method_5_code 16 = .ok (.getfield 16, 3) := by decide +kernel
theorem d6_19 : decode prog_25_method_5_code 19 = .ok (.invokevirtual 40, 3) := by decide +kernel
set_option maxRecDepth 65536 in
set_option maxHeartbeats 40000000 in
theorem tn6_11_22 {p : Program} {l : Launch} {e : Env} {s : State} {m : MethodId} {args : Array Value} {below : List Frame} {meth : Method} {c : Code} {T0 : State} {locs : List Loc} {Z : State} {a0 : Array Value} {h0 : Heap} {n0 : Nat} (o0 : Addr) (o1 : Addr) (w3 : Addr) (w5 : Addr) (wa wb : Addr) (n mm : Nat)
    (X0 : Stand p l e ({ frames := 4, cells := 6, slots := 24, locals := 61 } : Room) s m args below meth c T0 locs 2 8) (hx : p.tables.exec = Jvm.exec) (hZ : Z.Warmed39 s.vm) (hw : ∀ d ∈ tables_1, d.before a0 Z = true) (hby : c.code = prog_25_method_5_code) (hml : c.maxLocals = 2) (hown : s.vm.findClass "com/example/syncline/syncline/client/bench/KvWorkload$Tally" = some m.cls) (e0 : T0.heap = h0) (N0 : Fr n0 locs) (Z0 : n0 ≤ h0.size) (F_local_o0 : Fld Z h0 o0 "com/example/syncline/syncline/client/bench/KvWorkload$Tally" "local" "Lcom/example/syncline/syncline/client/bench/Latencies;" (.ref w3)) (F_local_o1 : Fld Z h0 o1 "com/example/syncline/syncline/client/bench/KvWorkload$Tally" "local" "Lcom/example/syncline/syncline/client/bench/Latencies;" (.ref w5)) (E_w3 : Exa Z h0 w3 "com/example/syncline/syncline/client/bench/Latencies") (XA : own_LT Z n0 h0 w3 wa n) (XB : own_LT Z n0 h0 w5 wb mm) (ab : w5 ≠ w3) (hm2 : mm ≤ 2) (hnm : n + mm ≤ 4) (sep : 1 ≤ n → 1 ≤ mm → wb ≠ wa) :
    ∃ (T' : State) (h' : Heap) (locs' : List Loc), Stand p l e ({ frames := 4, cells := 6, slots := 24, locals := 61 } : Room) s m args below meth c T' locs' 4 16 ∧ T'.heap = h' ∧ Fr n0 locs' ∧ n0 ≤ h'.size ∧ (∃ w', own_LT Z n0 h' w3 w' (n + mm) ∧ own_LT Z n0 h' w5 wb mm ∧ own_AD h0 h' w3 wa n) ∧
      ∀ target, Steps p.tables e below (T'.setTop (mkF m 22 #[.val (.ref o0), .val (.ref o1)] [])) target → Steps p.tables e below (T0.setTop (mkF m 11 #[.val (.ref o0), .val (.ref o1)] [])) target := by
  obtain ⟨T4, X4, e4, st4⟩ := getF X0 hx hZ hown (host := "") (Or.inl (hw _ (List.mem_of_getElem? (i := 23) rfl))) Via.refl e0 F_local_o0 (g := (mkF m 12 #[.val (.ref o0), .val (.ref o1)] [(.ref o0)])) rfl rfl (hb hby d6_12)
  obtain ⟨T6, X6, e6, st6⟩ := getF X4 hx hZ hown (host := "") (Or.inl (hw _ (List.mem_of_getElem? (i := 23) rfl))) Via.refl e4 F_local_o1 (g := (mkF m 16 #[.val (.ref o0), .val (.ref o1)] [(.ref o1), (.ref w3)])) rfl rfl (hb hby d6_16)
  obtain ⟨cq7, kq7, q7a, q7b, q7c⟩ := isOf hZ e6 E_w3
  obtain ⟨_, _, ⟨T7, L7, k7, n7⟩, -, X7, ⟨Lc7, hQ7, l7, y7, z7⟩, st7⟩ := X6.virtualBack hx (y := (⟨"com/example/syncline/syncline/client/bench/Latencies", "addAll", "(Lcom/example/syncline/syncline/client/bench/Latencies;)V"⟩ : MethodName)) (z := (⟨"com/example/syncline/syncline/client/bench/Latencies", "addAll", "(Lcom/example/syncline/syncline/client/bench/Latencies;)V"⟩ : MethodName)) hown (mvT hZ (hw _ (List.mem_of_getElem? (i := 46) rfl))) (mvT hZ (hw _ (List.mem_of_getElem? (i := 47) rfl))) (notFace_of_selects (args := #[]) (mvT hZ (hw _ (List.mem_of_getElem? (i := 49) rfl)))) (mvT hZ (hw _ (List.mem_of_getElem? (i := 49) rfl))) (mvT hZ (hw _ (List.mem_of_getElem? (i := 48) rfl))) (by decide) (backOf (W := 0) (rm7 l Z a0 hw [] w3 w5 wa wb n mm h0 n0 Z0 XA XB ab hm2 hnm sep) hZ (hw _ (List.mem_of_getElem? (i := 50) rfl)) (hw _ (List.mem_of_getElem? (i := 12) rfl)) (by decide) (by decide)) q7a q7c (g := (mkF m 19 #[.val (.ref o0), .val (.ref o1)] [(.ref w5), (.ref w3)])) rfl (by rw [hml]; rfl) (Steps.refl _) (argsL := [(.ref w5)]) (rest := []) (lenOf pd_6_4 rfl) rfl (by show 2 * 0 + _ ≤ _; exact Nat.le_of_eq rfl) (hb hby d6_19) (fun _ _ => ⟨rfl, e6, (Nat.le_of_ble_eq_true rfl), (Nat.le_of_ble_eq_true rfl)⟩)
  dsimp only [Pt.U, Pt.locs, Pt.cells, Pt.slots] at X7 l7 y7 z7 st7 hQ7
  subst l7 y7 z7
  obtain ⟨rfl, N7q, q7⟩ := hQ7
  have N7 := Fr.app N0 N7q
  refine ⟨T7, _, _, X7, rfl, N7, (Nat.le_trans Z0 q7.choose_spec.2.2.size), q7, fun target kt => ?_⟩
  show Steps p.tables e below (T0.setTop (mkF m 11 #[.val (.ref o0), .val (.ref o1)] [])) _
  refine XS.aloadN X0.here hx rfl (hb hby d6_11) rfl rfl ?_
  show Steps p.tables e below (T0.setTop (mkF m 12 #[.val (.ref o0), .val (.ref o1)] [(.ref o0)])) _
  refine st4 _ ?_
  show Steps p.tables e below (T4.setTop (mkF m 15 #[.val (.ref o0), .val (.ref o1)] [(.ref w3)])) _
  refine XS.aloadN X4.here hx rfl (hb hby d6_15) rfl rfl ?_
  show Steps p.tables e below (T4.setTop (mkF m 16 #[.val (.ref o0), .val (.ref o1)] [(.ref o1), (.ref w3)])) _
  refine st6 _ ?_
  show Steps p.tables e below (T6.setTop (mkF m 19 #[.val (.ref o0), .val (.ref o1)] [(.ref w5), (.ref w3)])) _
  refine st7.trans ?_
  exact kt
theorem d6_22 : decode prog_25_method_5_code 22 = .ok (.aload_n 0, 1) := by decide +kernel
theorem d6_23 : decode prog_25_method_5_code 23 = .ok (.getfield 19, 3) := by decide +kernel
theorem d6_26 : decode prog_25_method_5_code 26 = .ok (.aload_n 1, 1) := by decide +kernel
theorem d6_27 : decode prog_25_method_5_code 27 = .ok (.getfield 19, 3) := by decide +kernel
theorem d6_30 : decode prog_25_method_5_code 30 = .ok (.invokevirtual 40, 3) := by decide +kernel
set_option maxRecDepth 65536 in
set_option maxHeartbeats 40000000 in
theorem tn6_22_33 {p : Program} {l : Launch} {e : Env} {s : State} {m : MethodId} {args : Array Value} {below : List Frame} {meth : Method} {c : Code} {T0 : State} {locs : List Loc} {Z : State} {a0 : Array Value} {h0 : Heap} {n0 : Nat} (o0 : Addr) (o1 : Addr) (w3 : Addr) (w5 : Addr) (wa wb : Addr) (n mm : Nat)
    (X0 : Stand p l e ({ frames := 4, cells := 6, slots := 24, locals := 61 } : Room) s m args below meth c T0 locs 4 16) (hx : p.tables.exec = Jvm.exec) (hZ : Z.Warmed39 s.vm) (hw : ∀ d ∈ tables_1, d.before a0 Z = true) (hby : c.code = prog_25_method_5_code) (hml : c.maxLocals = 2) (hown : s.vm.findClass "com/example/syncline/syncline/client/bench/KvWorkload$Tally" = some m.cls) (e0 : T0.heap = h0) (N0 : Fr n0 locs) (Z0 : n0 ≤ h0.size) (F_global_o0 : Fld Z h0 o0 "com/example/syncline/syncline/client/bench/KvWorkload$Tally" "global" "Lcom/example/syncline/syncline/client/bench/Latencies;" (.ref w3)) (F_global_o1 : Fld Z h0 o1 "com/example/syncline/syncline/client/bench/KvWorkload$Tally" "global" "Lcom/example/syncline/syncline/client/bench/Latencies;" (.ref w5)) (E_w3 : Exa Z h0 w3 "com/example/syncline/syncline/client/bench/Latencies") (XA : own_LT Z n0 h0 w3 wa n) (XB : own_LT Z n0 h0 w5 wb mm) (ab : w5 ≠ w3) (hm2 : mm ≤ 2) (hnm : n + mm ≤ 4) (sep : 1 ≤ n → 1 ≤ mm → wb ≠ wa) :
    ∃ (T' : State) (h' : Heap) (locs' : List Loc), Stand p l e ({ frames := 4, cells := 6, slots := 24, locals := 61 } : Room) s m args below meth c T' locs' 6 24 ∧ T'.heap = h' ∧ Fr n0 locs' ∧ n0 ≤ h'.size ∧ (∃ w', own_LT Z n0 h' w3 w' (n + mm) ∧ own_LT Z n0 h' w5 wb mm ∧ own_AD h0 h' w3 wa n) ∧
      ∀ target, Steps p.tables e below (T'.setTop (mkF m 33 #[.val (.ref o0), .val (.ref o1)] [])) target → Steps p.tables e below (T0.setTop (mkF m 22 #[.val (.ref o0), .val (.ref o1)] [])) target := by
  obtain ⟨T4, X4, e4, st4⟩ := getF X0 hx hZ hown (host := "") (Or.inl (hw _ (List.mem_of_getElem? (i := 25) rfl))) Via.refl e0 F_global_o0 (g := (mkF m 23 #[.val (.ref o0), .val (.ref o1)] [(.ref o0)])) rfl rfl (hb hby d6_23)
  obtain ⟨T6, X6, e6, st6⟩ := getF X4 hx hZ hown (host := "") (Or.inl (hw _ (List.mem_of_getElem? (i := 25) rfl))) Via.refl e4 F_global_o1 (g := (mkF m 27 #[.val (.ref o0), .val (.ref o1)] [(.ref o1), (.ref w3)])) rfl rfl (hb hby d6_27)
  obtain ⟨cq7, kq7, q7a, q7b, q7c⟩ := isOf hZ e6 E_w3
  obtain ⟨_, _, ⟨T7, L7, k7, n7⟩, -, X7, ⟨Lc7, hQ7, l7, y7, z7⟩, st7⟩ := X6.virtualBack hx (y := (⟨"com/example/syncline/syncline/client/bench/Latencies", "addAll", "(Lcom/example/syncline/syncline/client/bench/Latencies;)V"⟩ : MethodName)) (z := (⟨"com/example/syncline/syncline/client/bench/Latencies", "addAll", "(Lcom/example/syncline/syncline/client/bench/Latencies;)V"⟩ : MethodName)) hown (mvT hZ (hw _ (List.mem_of_getElem? (i := 46) rfl))) (mvT hZ (hw _ (List.mem_of_getElem? (i := 47) rfl))) (notFace_of_selects (args := #[]) (mvT hZ (hw _ (List.mem_of_getElem? (i := 49) rfl)))) (mvT hZ (hw _ (List.mem_of_getElem? (i := 49) rfl))) (mvT hZ (hw _ (List.mem_of_getElem? (i := 48) rfl))) (by decide) (backOf (W := 0) (rm7 l Z a0 hw [] w3 w5 wa wb n mm h0 n0 Z0 XA XB ab hm2 hnm sep) hZ (hw _ (List.mem_of_getElem? (i := 50) rfl)) (hw _ (List.mem_of_getElem? (i := 12) rfl)) (by decide) (by decide)) q7a q7c (g := (mkF m 30 #[.val (.ref o0), .val (.ref o1)] [(.ref w5), (.ref w3)])) rfl (by rw [hml]; rfl) (Steps.refl _) (argsL := [(.ref w5)]) (rest := []) (lenOf pd_6_4 rfl) rfl (by show 2 * 0 + _ ≤ _; exact Nat.le_of_eq rfl) (hb hby d6_30) (fun _ _ => ⟨rfl, e6, (Nat.le_of_ble_eq_true rfl), (Nat.le_of_ble_eq_true rfl)⟩)
  dsimp only [Pt.U, Pt.locs, Pt.cells, Pt.slots] at X7 l7 y7 z7 st7 hQ7
  subst l7 y7 z7
  obtain ⟨rfl, N7q, q7⟩ := hQ7
  have N7 := Fr.app N0 N7q
  refine ⟨T7, _, _, X7, rfl, N7, (Nat.le_trans Z0 q7.choose_spec.2.2.size), q7, fun target kt => ?_⟩
  show Steps p.tables e below (T0.setTop (mkF m 22 #[.val (.ref o0), .val (.ref o1)] [])) _
  refine XS.aloadN X0.here hx rfl (hb hby d6_22) rfl rfl ?_
  show Steps p.tables e below (T0.setTop (mkF m 23 #[.val (.ref o0), .val (.ref o1)] [(.ref o0)])) _
  refine st4 _ ?_
  show Steps p.tables e below (T4.setTop (mkF m 26 #[.val (.ref o0), .val (.ref o1)] [(.ref w3)])) _
  refine XS.aloadN X4.here hx rfl (hb hby d6_26) rfl rfl ?_
  show Steps p.tables e below (T4.setTop (mkF m 27 #[.val (.ref o0), .val (.ref o1)] [(.ref o1), (.ref w3)])) _
  refine st6 _ ?_
  show Steps p.tables e below (T6.setTop (mkF m 30 #[.val (.ref o0), .val (.ref o1)] [(.ref w5), (.ref w3)])) _
  refine st7.trans ?_
  exact kt
theorem d6_33 : decode prog_25_method_5_code 33 = .ok (.aload_n 0, 1) := by decide +kernel
theorem d6_34 : decode prog_25_method_5_code 34 = .ok (.dup, 1) := by decide +kernel
theorem d6_35 : decode prog_25_method_5_code 35 = .ok (.getfield 44, 3) := by decide +kernel
theorem d6_38 : decode prog_25_method_5_code 38 = .ok (.aload_n 1, 1) := by decide +kernel
theorem d6_39 : decode prog_25_method_5_code 39 = .ok (.getfield 44, 3) := by decide +kernel
theorem d6_42 : decode prog_25_method_5_code 42 = .ok (.ladd, 1) := by decide +kernel
theorem d6_43 : decode prog_25_method_5_code 43 = .ok (.putfield 44, 3) := by decide +kernel
theorem d6_46 : decode prog_25_method_5_code 46 = .ok (.aload_n 0, 1) := by decide +kernel
theorem d6_47 : decode prog_25_method_5_code 47 = .ok (.dup, 1) := by decide +kernel
theorem d6_48 : decode prog_25_method_5_code 48 = .ok (.getfield 26, 3) := by decide +kernel
theorem d6_51 : decode prog_25_method_5_code 51 = .ok (.aload_n 1, 1) := by decide +kernel
theorem d6_52 : decode prog_25_method_5_code 52 = .ok (.getfield 26, 3) := by decide +kernel
theorem d6_55 : decode prog_25_method_5_code 55 = .ok (.ladd, 1) := by decide +kernel
theorem d6_56 : decode prog_25_method_5_code 56 = .ok (.putfield 26, 3) := by decide +kernel
theorem d6_59 : decode prog_25_method_5_code 59 = .ok (.aload_n 0, 1) := by decide +kernel
theorem d6_60 : decode prog_25_method_5_code 60 = .ok (.dup, 1) := by decide +kernel
theorem d6_61 : decode prog_25_method_5_code 61 = .ok (.getfield 47, 3) := by decide +kernel
theorem d6_64 : decode prog_25_method_5_code 64 = .ok (.aload_n 1, 1) := by decide +kernel
theorem d6_65 : decode prog_25_method_5_code 65 = .ok (.getfield 47, 3) := by decide +kernel
theorem d6_68 : decode prog_25_method_5_code 68 = .ok (.ladd, 1) := by decide +kernel
theorem d6_69 : decode prog_25_method_5_code 69 = .ok (.putfield 47, 3) := by decide +kernel
theorem d6_72 : decode prog_25_method_5_code 72 = .ok (.aload_n 0, 1) := by decide +kernel
theorem d6_73 : decode prog_25_method_5_code 73 = .ok (.dup, 1) := by decide +kernel
theorem d6_74 : decode prog_25_method_5_code 74 = .ok (.getfield 50, 3) := by decide +kernel
theorem d6_77 : decode prog_25_method_5_code 77 = .ok (.aload_n 1, 1) := by decide +kernel
theorem d6_78 : decode prog_25_method_5_code 78 = .ok (.getfield 50, 3) := by decide +kernel
theorem d6_81 : decode prog_25_method_5_code 81 = .ok (.ladd, 1) := by decide +kernel
theorem d6_82 : decode prog_25_method_5_code 82 = .ok (.putfield 50, 3) := by decide +kernel
set_option maxRecDepth 65536 in
set_option maxHeartbeats 40000000 in
theorem tn6_33_85 {p : Program} {l : Launch} {e : Env} {R : Room} {s : State} {m : MethodId} {args : Array Value} {below : List Frame} {meth : Method} {c : Code} {T0 : State} {locs : List Loc} {cells slots : Nat} {Z : State} {a0 : Array Value} {h0 : Heap} {n0 : Nat} (o0 : Addr) (o1 : Addr) (w3 : Int64) (w5 : Int64) (w8 : Int64) (w10 : Int64) (w13 : Int64) (w15 : Int64) (w18 : Int64) (w20 : Int64) (u : Addr)
    (X0 : Stand p l e R s m args below meth c T0 locs cells slots) (hx : p.tables.exec = Jvm.exec) (hZ : Z.Warmed39 s.vm) (hw : ∀ d ∈ tables_1, d.before a0 Z = true) (hby : c.code = prog_25_method_5_code) (hml : c.maxLocals = 2) (hown : s.vm.findClass "com/example/syncline/syncline/client/bench/KvWorkload$Tally" = some m.cls) (e0 : T0.heap = h0) (N0 : Fr n0 locs) (Z0 : n0 ≤ h0.size) (F_updateAborted_o0 : Fld Z h0 o0 "com/example/syncline/syncline/client/bench/KvWorkload$Tally" "updateAborted" "J" (.long w3)) (F_updateAborted_o1 : Fld Z h0 o1 "com/example/syncline/syncline/client/bench/KvWorkload$Tally" "updateAborted" "J" (.long w5)) (E_o0 : Exa Z h0 o0 "com/example/syncline/syncline/client/bench/KvWorkload$Tally") (g_o0 : n0 ≤ o0) (F_readOnlyCommitted_o0 : Fld Z h0 o0 "com/example/syncline/syncline/client/bench/KvWorkload$Tally" "readOnlyCommitted" "J" (.long w8)) (F_readOnlyCommitted_o1 : Fld Z h0 o1 "com/example/syncline/syncline/client/bench/KvWorkload$Tally" "readOnlyCommitted" "J" (.long w10)) (F_readOnlyAborted_o0 : Fld Z h0 o0 "com/example/syncline/syncline/client/bench/KvWorkload$Tally" "readOnlyAborted" "J" (.long w13)) (F_readOnlyAborted_o1 : Fld Z h0 o1 "com/example/syncline/syncline/client/bench/KvWorkload$Tally" "readOnlyAborted" "J" (.long w15)) (F_committedWhileAllRan_o0 : Fld Z h0 o0 "com/example/syncline/syncline/client/bench/KvWorkload$Tally" "committedWhileAllRan" "J" (.long w18)) (F_committedWhileAllRan_o1 : Fld Z h0 o1 "com/example/syncline/syncline/client/bench/KvWorkload$Tally" "committedWhileAllRan" "J" (.long w20)) (F_uc : Fld Z h0 o0 "com/example/syncline/syncline/client/bench/KvWorkload$Tally" "updateCommits" "Lcom/example/syncline/syncline/client/bench/Latencies;" (.ref u)) (ne : o1 ≠ o0) :
    ∃ (T' : State) (h' : Heap) (locs' : List Loc), Stand p l e R s m args below meth c T' locs' cells slots ∧ T'.heap = h' ∧ Fr n0 locs' ∧ n0 ≤ h'.size ∧ (Keep h0 h' [o0] ∧ Fld Z h' o0 "com/example/syncline/syncline/client/bench/KvWorkload$Tally" "updateCommits" "Lcom/example/syncline/syncline/client/bench/Latencies;" (.ref u) ∧ Fld Z h' o0 "com/example/syncline/syncline/client/bench/KvWorkload$Tally" "readOnlyCommitted" "J" (.long (w8 + w10))) ∧
      ∀ target, Steps p.tables e below (T'.setTop (mkF m 85 #[.val (.ref o0), .val (.ref o1)] [])) target → Steps p.tables e below (T0.setTop (mkF m 33 #[.val (.ref o0), .val (.ref o1)] [])) target := by
  obtain ⟨T4, X4, e4, st4⟩ := getF X0 hx hZ hown (host := "") (Or.inl (hw _ (List.mem_of_getElem? (i := 51) rfl))) Via.refl e0 F_updateAborted_o0 (g := (mkF m 35 #[.val (.ref o0), .val (.ref o1)] [(.ref o0), (.ref o0)])) rfl rfl (hb hby d6_35)
  obtain ⟨T6, X6, e6, st6⟩ := getF X4 hx hZ hown (host := "") (Or.inl (hw _ (List.mem_of_getElem? (i := 51) rfl))) Via.refl e4 F_updateAborted_o1 (g := (mkF m 39 #[.val (.ref o0), .val (.ref o1)] [(.ref o1), (.long w3), (.ref o0)])) rfl rfl (hb hby d6_39)
  obtain ⟨T7, h7, X7, e7, W7, st7⟩ := putF X6 hx hZ hown (host := "") (Or.inl (hw _ (List.mem_of_getElem? (i := 51) rfl))) Via.refl e6 F_updateAborted_o0 E_o0 (Or.inl (hw _ (List.mem_of_getElem? (i := 52) rfl))) (hw _ (List.mem_of_getElem? (i := 2) rfl)) (ty := .long) (by decide) rfl rfl (g := (mkF m 43 #[.val (.ref o0), .val (.ref o1)] [(.long (w3 + w5)), (.ref o0)])) rfl rfl (hb hby d6_43)
  have Fw7 := F_updateAborted_o0.same W7
  have K7 : Keep h0 h7 [o0] := (Keep.refl h0 [o0]).wr W7 (Or.inl (List.mem_of_getElem? (i := 0) rfl))
  have N7 := Fr.snoc X7 N0 g_o0
  obtain ⟨T9, X9, e9, st9⟩ := getF X7 hx hZ hown (host := "") (Or.inl (hw _ (List.mem_of_getElem? (i := 39) rfl))) Via.refl e7 (F_readOnlyCommitted_o0.other W7 (Or.inr (slot_ne (Or.inl (hw _ (List.mem_of_getElem? (i := 40) rfl))) (Or.inl (hw _ (List.mem_of_getElem? (i := 52) rfl))) (by decide) (t := .long) (t' := .long) (by decide) (by decide)))) (g := (mkF m 48 #[.val (.ref o0), .val (.ref o1)] [(.ref o0), (.ref o0)])) rfl rfl (hb hby d6_48)
  obtain ⟨T11, X11, e11, st11⟩ := getF X9 hx hZ hown (host := "") (Or.inl (hw _ (List.mem_of_getElem? (i := 39) rfl))) Via.refl e9 (F_readOnlyCommitted_o1.other W7 (Or.inl ne)) (g := (mkF m 52 #[.val (.ref o0), .val (.ref o1)] [(.ref o1), (.long w8), (.ref o0)])) rfl rfl (hb hby d6_52)
  obtain ⟨T12, h12, X12, e12, W12, st12⟩ := putF X11 hx hZ hown (host := "") (Or.inl (hw _ (List.mem_of_getElem? (i := 39) rfl))) Via.refl e11 (F_readOnlyCommitted_o0.other W7 (Or.inr (slot_ne (Or.inl (hw _ (List.mem_of_getElem? (i := 40) rfl))) (Or.inl (hw _ (List.mem_of_getElem? (i := 52) rfl))) (by decide) (t := .long) (t' := .long) (by decide) (by decide)))) (E_o0.wr W7) (Or.inl (hw _ (List.mem_of_getElem? (i := 40) rfl))) (hw _ (List.mem_of_getElem? (i := 2) rfl)) (ty := .long) (by decide) rfl rfl (g := (mkF m 56 #[.val (.ref o0), .val (.ref o1)] [(.long (w8 + w10)), (.ref o0)])) rfl rfl (hb hby d6_56)
  have Fw12 := (F_readOnlyCommitted_o0.other W7 (Or.inr (slot_ne (Or.inl (hw _ (List.mem_of_getElem? (i := 40) rfl))) (Or.inl (hw _ (List.mem_of_getElem? (i := 52) rfl))) (by decide) (t := .long) (t' := .long) (by decide) (by decide)))).same W12
  have K12 : Keep h0 h12 [o0] := K7.wr W12 (Or.inl (List.mem_of_getElem? (i := 0) rfl))
  have N12 := Fr.snoc X12 N7 g_o0
  obtain ⟨T14, X14, e14, st14⟩ := getF X12 hx hZ hown (host := "") (Or.inl (hw _ (List.mem_of_getElem? (i := 53) rfl))) Via.refl e12 ((F_readOnlyAborted_o0.other W7 (Or.inr (slot_ne (Or.inl (hw _ (List.mem_of_getElem? (i := 54) rfl))) (Or.inl (hw _ (List.mem_of_getElem? (i := 52) rfl))) (by decide) (t := .long) (t' := .long) (by decide) (by decide)))).other W12 (Or.inr (slot_ne (Or.inl (hw _ (List.mem_of_getElem? (i := 54) rfl))) (Or.inl (hw _ (List.mem_of_getElem? (i := 40) rfl))) (by decide) (t := .long) (t' := .long) (by decide) (by decide)))) (g := (mkF m 61 #[.val (.ref o0), .val (.ref o1)] [(.ref o0), (.ref o0)])) rfl rfl (hb hby d6_61)
  obtain ⟨T16, X16, e16, st16⟩ := getF X14 hx hZ hown (host := "") (Or.inl (hw _ (List.mem_of_getElem? (i := 53) rfl))) Via.refl e14 ((F_readOnlyAborted_o1.other W7 (Or.inl ne)).other W12 (Or.inl ne)) (g := (mkF m 65 #[.val (.ref o0), .val (.ref o1)] [(.ref o1), (.long w13), (.ref o0)])) rfl rfl (hb hby d6_65)
  obtain ⟨T17, h17, X17, e17, W17, st17⟩ := putF X16 hx hZ hown (host := "") (Or.inl (hw _ (List.mem_of_getElem? (i := 53) rfl))) Via.refl e16 ((F_readOnlyAborted_o0.other W7 (Or.inr (slot_ne (Or.inl (hw _ (List.mem_of_getElem? (i := 54) rfl))) (Or.inl (hw _ (List.mem_of_getElem? (i := 52) rfl))) (by decide) (t := .long) (t' := .long) (by decide) (by decide)))).other W12 (Or.inr (slot_ne (Or.inl (hw _ (List.mem_of_getElem? (i := 54) rfl))) (Or.inl (hw _ (List.mem_of_getElem? (i := 40) rfl))) (by decide) (t := .long) (t' := .long) (by decide) (by decide)))) ((E_o0.wr W7).wr W12) (Or.inl (hw _ (List.mem_of_getElem? (i := 54) rfl))) (hw _ (List.mem_of_getElem? (i := 2) rfl)) (ty := .long) (by decide) rfl rfl (g := (mkF m 69 #[.val (.ref o0), .val (.ref o1)] [(.long (w13 + w15)), (.ref o0)])) rfl rfl (hb hby d6_69)
  have Fw17 := ((F_readOnlyAborted_o0.other W7 (Or.inr (slot_ne (Or.inl (hw _ (List.mem_of_getElem? (i := 54) rfl))) (Or.inl (hw _ (List.mem_of_getElem? (i := 52) rfl))) (by decide) (t := .long) (t' := .long) (by decide) (by decide)))).other W12 (Or.inr (slot_ne (Or.inl (hw _ (List.mem_of_getElem? (i := 54) rfl))) (Or.inl (hw _ (List.mem_of_getElem? (i := 40) rfl))) (by decide) (t := .long) (t' := .long) (by decide) (by decide)))).same W17
  have K17 : Keep h0 h17 [o0] := K12.wr W17 (Or.inl (List.mem_of_getElem? (i := 0) rfl))
  have N17 := Fr.snoc X17 N12 g_o0
  obtain ⟨T19, X19, e19, st19⟩ := getF X17 hx hZ hown (host := "") (Or.inl (hw _ (List.mem_of_getElem? (i := 55) rfl))) Via.refl e17 (((F_committedWhileAllRan_o0.other W7 (Or.inr (slot_ne (Or.inl (hw _ (List.mem_of_getElem? (i := 56) rfl))) (Or.inl (hw _ (List.mem_of_getElem? (i := 52) rfl))) (by decide) (t := .long) (t' := .long) (by decide) (by decide)))).other W12 (Or.inr (slot_ne (Or.inl (hw _ (List.mem_of_getElem? (i := 56) rfl))) (Or.inl (hw _ (List.mem_of_getElem? (i := 40) rfl))) (by decide) (t := .long) (t' := .long) (by decide) (by decide)))).other W17 (Or.inr (slot_ne (Or.inl (hw _ (List.mem_of_getElem? (i := 56) rfl))) (Or.inl (hw _ (List.mem_of_getElem? (i := 54) rfl))) (by decide) (t := .long) (t' := .long) (by decide) (by decide)))) (g := (mkF m 74 #[.val (.ref o0), .val (.ref o1)] [(.ref o0), (.ref o0)])) rfl rfl (hb hby d6_74)
  obtain ⟨T21, X21, e21, st21⟩ := getF X19 hx hZ hown (host := "") (Or.inl (hw _ (List.mem_of_getElem? (i := 55) rfl))) Via.refl e19 (((F_committedWhileAllRan_o1.other W7 (Or.inl ne)).other W12 (Or.inl ne)).other W17 (Or.inl ne)) (g := (mkF m 78 #[.val (.ref o0), .val (.ref o1)] [(.ref o1), (.long w18), (.ref o0)])) rfl rfl (hb hby d6_78)
  obtain ⟨T22, h22, X22, e22, W22, st22⟩ := putF X21 hx hZ hown (host := "") (Or.inl (hw _ (List.mem_of_getElem? (i := 55) rfl))) Via.refl e21 (((F_committedWhileAllRan_o0.other W7 (Or.inr (slot_ne (Or.inl (hw _ (List.mem_of_getElem? (i := 56) rfl))) (Or.inl (hw _ (List.mem_of_getElem? (i := 52) rfl))) (by decide) (t := .long) (t' := .long) (by decide) (by decide)))).other W12 (Or.inr (slot_ne (Or.inl (hw _ (List.mem_of_getElem? (i := 56) rfl))) (Or.inl (hw _ (List.mem_of_getElem? (i := 40) rfl))) (by decide) (t := .long) (t' := .long) (by decide) (by decide)))).other W17 (Or.inr (slot_ne (Or.inl (hw _ (List.mem_of_getElem? (i := 56) rfl))) (Or.inl (hw _ (List.mem_of_getElem? (i := 54) rfl))) (by decide) (t := .long) (t' := .long) (by decide) (by decide)))) (((E_o0.wr W7).wr W12).wr W17) (Or.inl (hw _ (List.mem_of_getElem? (i := 56) rfl))) (hw _ (List.mem_of_getElem? (i := 2) rfl)) (ty := .long) (by decide) rfl rfl (g := (mkF m 82 #[.val (.ref o0), .val (.ref o1)] [(.long (w18 + w20)), (.ref o0)])) rfl rfl (hb hby d6_82)
  have Fw22 := (((F_committedWhileAllRan_o0.other W7 (Or.inr (slot_ne (Or.inl (hw _ (List.mem_of_getElem? (i := 56) rfl))) (Or.inl (hw _ (List.mem_of_getElem? (i := 52) rfl))) (by decide) (t := .long) (t' := .long) (by decide) (by decide)))).other W12 (Or.inr (slot_ne (Or.inl (hw _ (List.mem_of_getElem? (i := 56) rfl))) (Or.inl (hw _ (List.mem_of_getElem? (i := 40) rfl))) (by decide) (t := .long) (t' := .long) (by decide) (by decide)))).other W17 (Or.inr (slot_ne (Or.inl (hw _ (List.mem_of_getElem? (i := 56) rfl))) (Or.inl (hw _ (List.mem_of_getElem? (i := 54) rfl))) (by decide) (t := .long) (t' := .long) (by decide) (by decide)))).same W22
  have K22 : Keep h0 h22 [o0] := K17.wr W22 (Or.inl (List.mem_of_getElem? (i := 0) rfl))
  have N22 := Fr.snoc X22 N17 g_o0
  refine ⟨T22, _, _, X22, e22, N22, (Nat.le_trans Z0 K22.1), ⟨K22, ((((F_uc.other W7 (Or.inr (slot_ne (Or.inr (hw _ (List.mem_of_getElem? (i := 22) rfl))) (Or.inl (hw _ (List.mem_of_getElem? (i := 52) rfl))) (by decide) (t := (.object "com/example/syncline/syncline/client/bench/Latencies")) (t' := .long) (by decide) (by decide)))).other W12 (Or.inr (slot_ne (Or.inr (hw _ (List.mem_of_getElem? (i := 22) rfl))) (Or.inl (hw _ (List.mem_of_getElem? (i := 40) rfl))) (by decide) (t := (.object "com/example/syncline/syncline/client/bench/Latencies")) (t' := .long) (by decide) (by decide)))).other W17 (Or.inr (slot_ne (Or.inr (hw _ (List.mem_of_getElem? (i := 22) rfl))) (Or.inl (hw _ (List.mem_of_getElem? (i := 54) rfl))) (by decide) (t := (.object "com/example/syncline/syncline/client/bench/Latencies")) (t' := .long) (by decide) (by decide)))).other W22 (Or.inr (slot_ne (Or.inr (hw _ (List.mem_of_getElem? (i := 22) rfl))) (Or.inl (hw _ (List.mem_of_getElem? (i := 56) rfl))) (by decide) (t := (.object "com/example/syncline/syncline/client/bench/Latencies")) (t' := .long) (by decide) (by decide)))), ((Fw12.other W17 (Or.inr (slot_ne (Or.inl (hw _ (List.mem_of_getElem? (i := 40) rfl))) (Or.inl (hw _ (List.mem_of_getElem? (i := 54) rfl))) (by decide) (t := .long) (t' := .long) (by decide) (by decide)))).other W22 (Or.inr (slot_ne (Or.inl (hw _ (List.mem_of_getElem? (i := 40) rfl))) (Or.inl (hw _ (List.mem_of_getElem? (i := 56) rfl))) (by decide) (t := .long) (t' := .long) (by decide) (by decide))))⟩, fun target kt => ?_⟩
  show Steps p.tables e below (T0.setTop (mkF m 33 #[.val (.ref o0), .val (.ref o1)] [])) _
  refine XS.aloadN X0.here hx rfl (hb hby d6_33) rfl rfl ?_
  show Steps p.tables e below (T0.setTop (mkF m 34 #[.val (.ref o0), .val (.ref o1)] [(.ref o0)])) _
  refine XS.dup X0.here hx rfl (hb hby d6_34) rfl rfl ?_
  show Steps p.tables e below (T0.setTop (mkF m 35 #[.val (.ref o0), .val (.ref o1)] [(.ref o0), (.ref o0)])) _
  refine st4 _ ?_
  show Steps p.tables e below (T4.setTop (mkF m 38 #[.val (.ref o0), .val (.ref o1)] [(.long w3), (.ref o0)])) _
  refine XS.aloadN X4.here hx rfl (hb hby d6_38) rfl rfl ?_
  show Steps p.tables e below (T4.setTop (mkF m 39 #[.val (.ref o0), .val (.ref o1)] [(.ref o1), (.long w3), (.ref o0)])) _
  refine st6 _ ?_
  show Steps p.tables e below (T6.setTop (mkF m 42 #[.val (.ref o0), .val (.ref o1)] [(.long w5), (.long w3), (.ref o0)])) _
  refine XS.ladd X6.here hx rfl (hb hby d6_42) rfl ?_
  show Steps p.tables e below (T6.setTop (mkF m 43 #[.val (.ref o0), .val (.ref o1)] [(.long (w3 + w5)), (.ref o0)])) _
  refine st7 _ ?_
  show Steps p.tables e below (T7.setTop (mkF m 46 #[.val (.ref o0), .val (.ref o1)] [])) _
  refine XS.aloadN X7.here hx rfl (hb hby d6_46) rfl rfl ?_
  show Steps p.tables e below (T7.setTop (mkF m 47 #[.val (.ref o0), .val (.ref o1)] [(.ref o0)])) _
  refine XS.dup X7.here hx rfl (hb hby d6_47) rfl rfl ?_
  show Steps p.tables e below (T7.setTop (mkF m 48 #[.val (.ref o0), .val (.ref o1)] [(.ref o0), (.ref o0)])) _
  refine st9 _ ?_
  show Steps p.tables e below (T9.setTop (mkF m 51 #[.val (.ref o0), .val (.ref o1)] [(.long w8), (.ref o0)])) _
  refine XS.aloadN X9.here hx rfl (hb hby d6_51) rfl rfl ?_
  show Steps p.tables e below (T9.setTop (mkF m 52 #[.val (.ref o0), .val (.ref o1)] [(.ref o1), (.long w8), (.ref o0)])) _
  refine st11 _ ?_
  show Steps p.tables e below (T11.setTop (mkF m 55 #[.val (.ref o0), .val (.ref o1)] [(.long w10), (.long w8), (.ref o0)])) _
  refine XS.ladd X11.here hx rfl (hb hby d6_55) rfl ?_
  show Steps p.tables e below (T11.setTop (mkF m 56 #[.val (.ref o0), .val (.ref o1)] [(.long (w8 + w10)), (.ref o0)])) _
  refine st12 _ ?_
  show Steps p.tables e below (T12.setTop (mkF m 59 #[.val (.ref o0), .val (.ref o1)] [])) _
  refine XS.aloadN X12.here hx rfl (hb hby d6_59) rfl rfl ?_
  show Steps p.tables e below (T12.setTop (mkF m 60 #[.val (.ref o0), .val (.ref o1)] [(.ref o0)])) _
  refine XS.dup X12.here hx rfl (hb hby d6_60) rfl rfl ?_
  show Steps p.tables e below (T12.setTop (mkF m 61 #[.val (.ref o0), .val (.ref o1)] [(.ref o0), (.ref o0)])) _
  refine st14 _ ?_
  show Steps p.tables e below (T14.setTop (mkF m 64 #[.val (.ref o0), .val (.ref o1)] [(.long w13), (.ref o0)])) _
  refine XS.aloadN X14.here hx rfl (hb hby d6_64) rfl rfl ?_
  show Steps p.tables e below (T14.setTop (mkF m 65 #[.val (.ref o0), .val (.ref o1)] [(.ref o1), (.long w13), (.ref o0)])) _
  refine st16 _ ?_
  show Steps p.tables e below (T16.setTop (mkF m 68 #[.val (.ref o0), .val (.ref o1)] [(.long w15), (.long w13), (.ref o0)])) _
  refine XS.ladd X16.here hx rfl (hb hby d6_68) rfl ?_
  show Steps p.tables e below (T16.setTop (mkF m 69 #[.val (.ref o0), .val (.ref o1)] [(.long (w13 + w15)), (.ref o0)])) _
  refine st17 _ ?_
  show Steps p.tables e below (T17.setTop (mkF m 72 #[.val (.ref o0), .val (.ref o1)] [])) _
  refine XS.aloadN X17.here hx rfl (hb hby d6_72) rfl rfl ?_
  show Steps p.tables e below (T17.setTop (mkF m 73 #[.val (.ref o0), .val (.ref o1)] [(.ref o0)])) _
  refine XS.dup X17.here hx rfl (hb hby d6_73) rfl rfl ?_
  show Steps p.tables e below (T17.setTop (mkF m 74 #[.val (.ref o0), .val (.ref o1)] [(.ref o0), (.ref o0)])) _
  refine st19 _ ?_
  show Steps p.tables e below (T19.setTop (mkF m 77 #[.val (.ref o0), .val (.ref o1)] [(.long w18), (.ref o0)])) _
  refine XS.aloadN X19.here hx rfl (hb hby d6_77) rfl rfl ?_
  show Steps p.tables e below (T19.setTop (mkF m 78 #[.val (.ref o0), .val (.ref o1)] [(.ref o1), (.long w18), (.ref o0)])) _
  refine st21 _ ?_
  show Steps p.tables e below (T21.setTop (mkF m 81 #[.val (.ref o0), .val (.ref o1)] [(.long w20), (.long w18), (.ref o0)])) _
  refine XS.ladd X21.here hx rfl (hb hby d6_81) rfl ?_
  show Steps p.tables e below (T21.setTop (mkF m 82 #[.val (.ref o0), .val (.ref o1)] [(.long (w18 + w20)), (.ref o0)])) _
  refine st22 _ ?_
  exact kt
theorem d6_85 : decode prog_25_method_5_code 85 = .ok (.return_, 1) := by decide +kernel
theorem pn_6 : plainName "com/example/syncline/syncline/client/bench/KvWorkload$Tally" = true := by first | (simp [plainName, overriddenIn]; done) | decide +kernel
theorem ef_6 (m : MethodId) (x0 : Addr) (x1 : Addr) : entryFrame m #[(.ref x0), (.ref x1)] 2 = mkF m 0 #[.val (.ref x0), .val (.ref x1)] [] := by first | (simp [entryFrame, mkF, argsToLocals, Value.category]; done) | rfl

def Q6 (Z : State) (n0 : Nat) (o0 uA : Addr) (n : Nat) (o1 uB wB : Addr) (mm : Nat) (h0 : Heap) (v : Option Value) (h : Heap) (Lc : List Loc) : Prop := v = none ∧ Fr n0 Lc ∧ n0 ≤ h.size ∧ Exa Z h o0 "com/example/syncline/syncline/client/bench/KvWorkload$Tally" ∧ Exa Z h o1 "com/example/syncline/syncline/client/bench/KvWorkload$Tally" ∧ (∃ w', own_LT Z n0 h uA w' (n + mm)) ∧ own_LT Z n0 h uB wB mm ∧ Fld Z h o0 "com/example/syncline/syncline/client/bench/KvWorkload$Tally" "updateCommits" "Lcom/example/syncline/syncline/client/bench/Latencies;" (.ref uA) ∧ Fld Z h o0 "com/example/syncline/syncline/client/bench/KvWorkload$Tally" "readOnlyCommitted" "J" (.long 0) ∧ Fld Z h o1 "com/example/syncline/syncline/client/bench/KvWorkload$Tally" "updateCommits" "Lcom/example/syncline/syncline/client/bench/Latencies;" (.ref uB) ∧ Fld Z h o1 "com/example/syncline/syncline/client/bench/KvWorkload$Tally" "readOnlyCommitted" "J" (.long 0)
set_option maxRecDepth 65536 in
set_option maxHeartbeats 4000000 in
theorem rm6 (l : Launch) (Z : State) (a0 : Array Value) (hw : ∀ d ∈ tables_1, d.before a0 Z = true) (ws : List Jvm.Cond) (o0 o1 : Addr) (z uA lA gA wA : Addr) (n : Nat) (uB lB gB wB : Addr) (mm : Nat) (h0 : Heap) (n0 : Nat) (Z0 : n0 ≤ h0.size) (S : own_S Z n0 h0 z o0 uA lA gA wA n o1 uB lB gB wB mm) (hm2 : mm ≤ 2) (hnm : n + mm ≤ 4) :
    MetFree l (⟨"com/example/syncline/syncline/client/bench/KvWorkload$Tally", "add", "(Lcom/example/syncline/syncline/client/bench/KvWorkload$Tally;)V"⟩ : MethodName) (head1 (Jvm.Cond.code (⟨"com/example/syncline/syncline/client/bench/KvWorkload$Tally", "add", "(Lcom/example/syncline/syncline/client/bench/KvWorkload$Tally;)V"⟩ : MethodName) prog_25_method_5_code 2 none :: ws) ({ frames := 4, cells := 6, slots := 24, locals := 61 } : Room)) (fun a U => a = #[(.ref o0), (.ref o1)] ∧ Z.Warmed39 U.vm ∧ U.heap = h0) (fun _ _ _ _ _ => True) (fun _ U o U' => ∃ v L, o = .returned v ∧ Q6 Z n0 o0 uA n o1 uB wB mm h0 v U'.heap L ∧ FrameEnd U o U' L ({ frames := 4, cells := 6, slots := 24, locals := 61 } : Room).cells ({ frames := 4, cells := 6, slots := 24, locals := 61 } : Room).slots) := by
  refine MetFree.of_bodySF (plainFor_of_name pn_6) hisR ?_
  intro p e s m args below meth c s₁ Bd hml0 hP hK
  obtain ⟨rfl, hZ, hh⟩ := hP
  have hx := Bd.exec
  have hby := Bd.bytes
  have hml : c.maxLocals = 2 := hml0
  have hown : s.vm.findClass "com/example/syncline/syncline/client/bench/KvWorkload$Tally" = some m.cls := findClass_of_methodNamed Bd.named
  have X0 : Stand p l e ({ frames := 4, cells := 6, slots := 24, locals := 61 } : Room) s m #[(.ref o0), (.ref o1)] below meth c s₁ [] 0 0 := Stand.of_body Bd
  have e0 : s₁.heap = h0 := by rw [← hh, Bd.state]; rfl
  have N0 := Fr.nil n0
  have pre0 : ∀ t, Steps p.tables e below (s₁.setTop (mkF m 0 #[.val (.ref o0), .val (.ref o1)] [])) t → Steps p.tables e below (s₁.setTop (entryFrame m #[(.ref o0), (.ref o1)] 2)) t := fun t k => castTop (ef_6 m o0 o1) k
  obtain ⟨TA, TB, XA, XB, XlA, XgA, XlB, XgB, sep, nt, ⟨o1_, o2_, o3_⟩, ⟨o4_, o5_, o6_⟩, ⟨o7_, o8_, o9_⟩, ⟨o10_, o11_, o12_⟩, ⟨o13_, o14_⟩⟩ := S
  have no1 : ∀ {x y : Addr}, 1 ≤ n → 1 ≤ 0 → x ≠ y := fun _ v => absurd v (by decide)
  have no0 : ∀ {x y : Addr} {k : Nat}, 1 ≤ 0 → 1 ≤ k → x ≠ y := fun v _ => absurd v (by decide)
  obtain ⟨T1, h1, l1, X1, e1, N1, Z1, ⟨w1, XA1, XB1, D1⟩, st1⟩ := tn6_0_11 o0 o1 uA uB wA wB n mm X0 hx hZ hw hby hml hown e0 N0 Z0 TA.2.2.1 TB.2.2.1 XA.1 XA XB o4_ hm2 hnm sep
  have TA1 := TA.ad D1 XA (hw _ (List.mem_of_getElem? (i := 2) rfl))
  have TB1 := TB.ad D1 XA (hw _ (List.mem_of_getElem? (i := 2) rfl))
  have XlA1 := D1.lt XA XlA (hw _ (List.mem_of_getElem? (i := 11) rfl)) o1_ no1
  have XgA1 := D1.lt XA XgA (hw _ (List.mem_of_getElem? (i := 11) rfl)) o2_ no1
  have XlB1 := D1.lt XA XlB (hw _ (List.mem_of_getElem? (i := 11) rfl)) o5_ no1
  have XgB1 := D1.lt XA XgB (hw _ (List.mem_of_getElem? (i := 11) rfl)) o6_ no1
  obtain ⟨T2, h2, l2, X2, e2, N2, Z2, ⟨w2, XlA2, XlB2, D2⟩, st2⟩ := tn6_11_22 o0 o1 lA lB z z 0 0 X1 hx hZ hw hby hml hown e1 N1 Z1 TA1.2.2.2.1 TB1.2.2.2.1 XlA1.1 XlA1 XlB1 o8_ (by decide) (by decide) (fun _ v => absurd v (by decide))
  have TA2 := TA1.ad D2 XlA1 (hw _ (List.mem_of_getElem? (i := 2) rfl))
  have TB2 := TB1.ad D2 XlA1 (hw _ (List.mem_of_getElem? (i := 2) rfl))
  have XA2 := D2.lt XlA1 XA1 (hw _ (List.mem_of_getElem? (i := 11) rfl)) o1_.symm no0
  have XB2 := D2.lt XlA1 XB1 (hw _ (List.mem_of_getElem? (i := 11) rfl)) o7_ no0
  have XgA2 := D2.lt XlA1 XgA1 (hw _ (List.mem_of_getElem? (i := 11) rfl)) o3_ no0
  have XgB2 := D2.lt XlA1 XgB1 (hw _ (List.mem_of_getElem? (i := 11) rfl)) o9_ no0
  obtain ⟨T3, h3, l3, X3, e3, N3, Z3, ⟨w3, XgA3, XgB3, D3⟩, st3⟩ := tn6_22_33 o0 o1 gA gB z z 0 0 X2 hx hZ hw hby hml hown e2 N2 Z2 TA2.2.2.2.2.1 TB2.2.2.2.2.1 XgA2.1 XgA2 XgB2 o12_ (by decide) (by decide) (fun _ v => absurd v (by decide))
  have TA3 := TA2.ad D3 XgA2 (hw _ (List.mem_of_getElem? (i := 2) rfl))
  have TB3 := TB2.ad D3 XgA2 (hw _ (List.mem_of_getElem? (i := 2) rfl))
  have XA3 := D3.lt XgA2 XA2 (hw _ (List.mem_of_getElem? (i := 11) rfl)) o2_.symm no0
  have XB3 := D3.lt XgA2 XB2 (hw _ (List.mem_of_getElem? (i := 11) rfl)) o10_ no0
  obtain ⟨T4, h4, l4, X4, e4, N4, Z4, ⟨K4, Fu4, Fr4⟩, st4⟩ := tn6_33_85 o0 o1 0 0 0 0 0 0 0 0 uA X3 hx hZ hw hby hml hown e3 N3 Z3 TA3.2.2.2.2.2.1 TB3.2.2.2.2.2.1 TA3.1 TA3.2.1 TA3.2.2.2.2.2.2.1 TB3.2.2.2.2.2.2.1 TA3.2.2.2.2.2.2.2.1 TB3.2.2.2.2.2.2.2.1 TA3.2.2.2.2.2.2.2.2 TB3.2.2.2.2.2.2.2.2 TA3.2.2.1 nt
  have TB4 := TB3.keep K4 (ninS nt nin0)
  obtain ⟨cA, ArA⟩ := XA3.arr
  obtain ⟨cB, ArB⟩ := XB3.arr
  have XA4 := XA3.keep K4 (ninS (ne_exa XA3.1 TA3.1 (by decide)) nin0) (ninS (ne_arr TA3.1 (hw _ (List.mem_of_getElem? (i := 2) rfl)) ArA).symm nin0)
  have XB4 := XB3.keep K4 (ninS (ne_exa XB3.1 TA3.1 (by decide)) nin0) (ninS (ne_arr TA3.1 (hw _ (List.mem_of_getElem? (i := 2) rfl)) ArB).symm nin0)
  obtain ⟨fs, hr, hrun, hended, hW, hsame⟩ := X4.leave (v := none) (fun _ => rfl)
  refine ⟨_, _, pre0 _ ?_, hrun, hended, _, _, rfl, ?_, ⟨_, rfl⟩, hW, hsame.mono (by decide) (by decide)⟩
  · exact st1 _ (st2 _ (st3 _ (st4 _ (X4.returnOut hx Bd.returns (hb hby d6_85) hr))))
  · show Q6 Z n0 o0 uA n o1 uB wB mm h0 _ T4.heap _
    rw [e4]
    exact ⟨rfl, N4, Z4, TA3.1.keep K4, TB4.1, ⟨w1, XA4⟩, XB4, Fu4, Fr4, TB4.2.2.1, TB4.2.2.2.2.2.2.1⟩
theorem os0_6 {z0 : Value} {s1 : Slot} {s2 : Slot} {s3 : Slot} {s4 : Slot} {s5 : Slot} {s6 : Slot} {s7 : Slot} {s8 : Slot} {s9 : Slot} {s10 : Slot} {s11 : Slot} {s12 : Slot} {s13 : Slot} {s14 : Slot} {s15 : Slot} {s16 : Slot} {s17 : Slot} {s18 : Slot} {s19 : Slot} {s20 : Slot} {v : Int32} (h : One s9) : storeLocals #[.val z0, s1, s2, s3, s4, s5, s6, s7, s8, s9, s10, s11, s12, s13, s14, s15, s16, s17, s18, s19, s20] 9 (.int v) = some #[.val z0, s1, s2, s3, s4, s5, s6, s7, s8, .val (.int v), s10, s11, s12, s13, s14, s15, s16, s17, s18, s19, s20] := by
  rcases h with rfl | ⟨w, rfl, hw⟩
  · rfl
  · cases w <;> first | rfl | (simp [Value.category] at hw)
theorem os0_14 {z0 : Value} {s1 : Slot} {s2 : Slot} {s3 : Slot} {s4 : Slot} {s5 : Slot} {s6 : Slot} {s7 : Slot} {s8 : Slot} {z9 : Value} {s10 : Slot} {s11 : Slot} {s12 : Slot} {s13 : Slot} {s14 : Slot} {s15 : Slot} {s16 : Slot} {s17 : Slot} {s18 : Slot} {s19 : Slot} {s20 : Slot} {v : Int32} (h : One s10) : storeLocals #[.val z0, s1, s2, s3, s4, s5, s6, s7, s8, .val z9, s10, s11, s12, s13, s14, s15, s16, s17, s18, s19, s20] 10 (.int v) = some #[.val z0, s1, s2, s3, s4, s5, s6, s7, s8, .val z9, .val (.int v), s11, s12, s13, s14, s15, s16, s17, s18, s19, s20] := by
  rcases h with rfl | ⟨w, rfl, hw⟩
  · rfl
  · cases w <;> first | rfl | (simp [Value.category] at hw)
set_option maxRecDepth 65536 in
set_option maxHeartbeats 40000000 in
theorem tn0_0_16 {p : Program} {l : Launch} {e : Env} {R : Room} {s : State} {m : MethodId} {args : Array Value} {below : List Frame} {meth : Method} {c : Code} {T0 : State} {locs : List Loc} {cells slots : Nat} {Z : State} {a0 : Array Value} {h0 : Heap} (i0 : Int32) (s1 : Slot) (s2 : Slot) (s3 : Slot) (s4 : Slot) (s5 : Slot) (s6 : Slot) (s7 : Slot) (s8 : Slot)
    (X0 : Stand p l e R s m args below meth c T0 locs cells slots) (hx : p.tables.exec = Jvm.exec) (hZ : Z.Warmed39 s.vm) (hw : ∀ d ∈ tables_1, d.before a0 Z = true) (hby : c.code = code) (hml : c.maxLocals = 21) (hown : s.vm.findClass "com/example/syncline/syncline/client/bench/TallyCommittedPinLaw" = some m.cls) (e0 : T0.heap = h0) (hs9 : One .unset) (hs10 : One .unset) (hnz5 : ¬ ((3 : Int32) = (0 : Int32))) (hnz13 : ¬ ((3 : Int32) = (0 : Int32))) :
    ∃ (T' : State), Stand p l e R s m args below meth c T' locs cells slots ∧ T'.heap = h0 ∧
      ∀ target, Steps p.tables e below (T'.setTop (mkF m 16 #[.val (.int i0), s1, s2, s3, s4, s5, s6, s7, s8, .val (.int ((i0 &&& (2147483647 : Int32)) % (3 : Int32))), .val (.int (((i0.toUInt32 >>> ((8 : Int32) &&& 31).toUInt32).toInt32) % (3 : Int32))), .unset, .unset, .unset, .unset, .unset, .unset, .unset, .unset, .unset, .unset] [])) target → Steps p.tables e below (T0.setTop (mkF m 0 #[.val (.int i0), s1, s2, s3, s4, s5, s6, s7, s8, .unset, .unset, .unset, .unset, .unset, .unset, .unset, .unset, .unset, .unset, .unset, .unset] [])) target := by

  refine ⟨T0, X0, e0, fun target kt => ?_⟩
  show Steps p.tables e below (T0.setTop (mkF m 0 #[.val (.int i0), s1, s2, s3, s4, s5, s6, s7, s8, .unset, .unset, .unset, .unset, .unset, .unset, .unset, .unset, .unset, .unset, .unset, .unset] [])) _
  refine XS.iloadN X0.here hx rfl (hb hby at_0) rfl ?_
  show Steps p.tables e below (T0.setTop (mkF m 1 #[.val (.int i0), s1, s2, s3, s4, s5, s6, s7, s8, .unset, .unset, .unset, .unset, .unset, .unset, .unset, .unset, .unset, .unset, .unset, .unset] [(.int i0)])) _
  refine X0.ldcInt hx hown (mvT hZ (hw _ (List.mem_of_getElem? (i := 0) rfl))) (g := (mkF m 1 #[.val (.int i0), s1, s2, s3, s4, s5, s6, s7, s8, .unset, .unset, .unset, .unset, .unset, .unset, .unset, .unset, .unset, .unset, .unset, .unset] [(.int i0)])) rfl (hb hby at_1) _ ?_
  show Steps p.tables e below (T0.setTop (mkF m 3 #[.val (.int i0), s1, s2, s3, s4, s5, s6, s7, s8, .unset, .unset, .unset, .unset, .unset, .unset, .unset, .unset, .unset, .unset, .unset, .unset] [(.int (2147483647 : Int32)), (.int i0)])) _
  refine XS.iand X0.here hx rfl (hb hby at_3) rfl ?_
  show Steps p.tables e below (T0.setTop (mkF m 4 #[.val (.int i0), s1, s2, s3, s4, s5, s6, s7, s8, .unset, .unset, .unset, .unset, .unset, .unset, .unset, .unset, .unset, .unset, .unset, .unset] [(.int (i0 &&& (2147483647 : Int32)))])) _
  refine XS.iconst X0.here hx rfl (hb hby at_4) ?_
  show Steps p.tables e below (T0.setTop (mkF m 5 #[.val (.int i0), s1, s2, s3, s4, s5, s6, s7, s8, .unset, .unset, .unset, .unset, .unset, .unset, .unset, .unset, .unset, .unset, .unset, .unset] [(.int (3 : Int32)), (.int (i0 &&& (2147483647 : Int32)))])) _
  refine own_irem X0.here hx rfl (hb hby at_5) rfl hnz5 ?_
  show Steps p.tables e below (T0.setTop (mkF m 6 #[.val (.int i0), s1, s2, s3, s4, s5, s6, s7, s8, .unset, .unset, .unset, .unset, .unset, .unset, .unset, .unset, .unset, .unset, .unset, .unset] [(.int ((i0 &&& (2147483647 : Int32)) % (3 : Int32)))])) _
  refine XS.istore X0.here hx rfl (hb hby at_6) rfl (l' := #[.val (.int i0), s1, s2, s3, s4, s5, s6, s7, s8, .val (.int ((i0 &&& (2147483647 : Int32)) % (3 : Int32))), .unset, .unset, .unset, .unset, .unset, .unset, .unset, .unset, .unset, .unset, .unset]) (os0_6 hs9) ?_
  show Steps p.tables e below (T0.setTop (mkF m 8 #[.val (.int i0), s1, s2, s3, s4, s5, s6, s7, s8, .val (.int ((i0 &&& (2147483647 : Int32)) % (3 : Int32))), .unset, .unset, .unset, .unset, .unset, .unset, .unset, .unset, .unset, .unset, .unset] [])) _
  refine XS.iloadN X0.here hx rfl (hb hby at_8) rfl ?_
  show Steps p.tables e below (T0.setTop (mkF m 9 #[.val (.int i0), s1, s2, s3, s4, s5, s6, s7, s8, .val (.int ((i0 &&& (2147483647 : Int32)) % (3 : Int32))), .unset, .unset, .unset, .unset, .unset, .unset, .unset, .unset, .unset, .unset, .unset] [(.int i0)])) _
  refine XS.bipush X0.here hx rfl (hb hby at_9) ?_
  show Steps p.tables e below (T0.setTop (mkF m 11 #[.val (.int i0), s1, s2, s3, s4, s5, s6, s7, s8, .val (.int ((i0 &&& (2147483647 : Int32)) % (3 : Int32))), .unset, .unset, .unset, .unset, .unset, .unset, .unset, .unset, .unset, .unset, .unset] [(.int (8 : Int32)), (.int i0)])) _
  refine XS.iushr X0.here hx rfl (hb hby at_11) rfl ?_
  show Steps p.tables e below (T0.setTop (mkF m 12 #[.val (.int i0), s1, s2, s3, s4, s5, s6, s7, s8, .val (.int ((i0 &&& (2147483647 : Int32)) % (3 : Int32))), .unset, .unset, .unset, .unset, .unset, .unset, .unset, .unset, .unset, .unset, .unset] [(.int ((i0.toUInt32 >>> ((8 : Int32) &&& 31).toUInt32).toInt32))])) _
  refine XS.iconst X0.here hx rfl (hb hby at_12) ?_
  show Steps p.tables e below (T0.setTop (mkF m 13 #[.val (.int i0), s1, s2, s3, s4, s5, s6, s7, s8, .val (.int ((i0 &&& (2147483647 : Int32)) % (3 : Int32))), .unset, .unset, .unset, .unset, .unset, .unset, .unset, .unset, .unset, .unset, .unset] [(.int (3 : Int32)), (.int ((i0.toUInt32 >>> ((8 : Int32) &&& 31).toUInt32).toInt32))])) _
  refine own_irem X0.here hx rfl (hb hby at_13) rfl hnz13 ?_
  show Steps p.tables e below (T0.setTop (mkF m 14 #[.val (.int i0), s1, s2, s3, s4, s5, s6, s7, s8, .val (.int ((i0 &&& (2147483647 : Int32)) % (3 : Int32))), .unset, .unset, .unset, .unset, .unset, .unset, .unset, .unset, .unset, .unset, .unset] [(.int (((i0.toUInt32 >>> ((8 : Int32) &&& 31).toUInt32).toInt32) % (3 : Int32)))])) _
  refine XS.istore X0.here hx rfl (hb hby at_14) rfl (l' := #[.val (.int i0), s1, s2, s3, s4, s5, s6, s7, s8, .val (.int ((i0 &&& (2147483647 : Int32)) % (3 : Int32))), .val (.int (((i0.toUInt32 >>> ((8 : Int32) &&& 31).toUInt32).toInt32) % (3 : Int32))), .unset, .unset, .unset, .unset, .unset, .unset, .unset, .unset, .unset, .unset]) (os0_14 hs10) ?_
  exact kt
theorem pd_0_0 : parseMethodDescriptor "()V" = some ⟨[], none⟩ := by decide +kernel
theorem os0_23 {s0 : Slot} {s1 : Slot} {s2 : Slot} {s3 : Slot} {s4 : Slot} {s5 : Slot} {s6 : Slot} {s7 : Slot} {s8 : Slot} {s9 : Slot} {s10 : Slot} {s11 : Slot} {s12 : Slot} {s13 : Slot} {s14 : Slot} {s15 : Slot} {s16 : Slot} {s17 : Slot} {s18 : Slot} {s19 : Slot} {s20 : Slot} {v : Addr} (h : One s11) : storeLocals #[s0, s1, s2, s3, s4, s5, s6, s7, s8, s9, s10, s11, s12, s13, s14, s15, s16, s17, s18, s19, s20] 11 (.ref v) = some #[s0, s1, s2, s3, s4, s5, s6, s7, s8, s9, s10, .val (.ref v), s12, s13, s14, s15, s16, s17, s18, s19, s20] := by
  rcases h with rfl | ⟨w, rfl, hw⟩
  · rfl
  · cases w <;> first | rfl | (simp [Value.category] at hw)
set_option maxRecDepth 65536 in
set_option maxHeartbeats 40000000 in
theorem tn0_16_25 {p : Program} {l : Launch} {e : Env} {s : State} {m : MethodId} {args : Array Value} {below : List Frame} {meth : Method} {c : Code} {T0 : State} {locs : List Loc} {Z : State} {a0 : Array Value} {h0 : Heap} {n0 : Nat} (s0 : Slot) (s1 : Slot) (s2 : Slot) (s3 : Slot) (s4 : Slot) (s5 : Slot) (s6 : Slot) (s7 : Slot) (s8 : Slot) (s9 : Slot) (s10 : Slot) (z : Addr)
    (X0 : Stand p l e room_1 s m args below meth c T0 locs 0 0) (hx : p.tables.exec = Jvm.exec) (hZ : Z.Warmed39 s.vm) (hw : ∀ d ∈ tables_1, d.before a0 Z = true) (hby : c.code = code) (hml : c.maxLocals = 21) (hown : s.vm.findClass "com/example/syncline/syncline/client/bench/TallyCommittedPinLaw" = some m.cls) (e0 : T0.heap = h0) (N0 : Fr n0 locs) (Z0 : n0 ≤ h0.size) (hs11 : One .unset) (SN : Sta Z h0 "com/example/syncline/syncline/client/bench/Latencies" "NONE" "[J" (.ref z)) (V0 : own_AF Z h0 z .long 0 (fun _ => .long 0)) :
    ∃ (b6 : Addr) (T' : State) (h' : Heap) (locs' : List Loc), Stand p l e room_1 s m args below meth c T' locs' 4 13 ∧ T'.heap = h' ∧ Fr n0 locs' ∧ n0 ≤ h'.size ∧ (∃ u lo gl : Addr, own_TY Z n0 h' b6 u lo gl ∧ own_LT Z n0 h' u z 0 ∧ own_LT Z n0 h' lo z 0 ∧ own_LT Z n0 h' gl z 0 ∧ h0.size ≤ b6 ∧ h0.size ≤ u ∧ u < lo ∧ lo < gl ∧ gl < h'.size ∧ Keep h0 h' []) ∧
      ∀ target, Steps p.tables e below (T'.setTop (mkF m 25 #[s0, s1, s2, s3, s4, s5, s6, s7, s8, s9, s10, .val (.ref b6), .unset, .unset, .unset, .unset, .unset, .unset, .unset, .unset, .unset] [])) target → Steps p.tables e below (T0.setTop (mkF m 16 #[s0, s1, s2, s3, s4, s5, s6, s7, s8, s9, s10, .unset, .unset, .unset, .unset, .unset, .unset, .unset, .unset, .unset, .unset] [])) target := by
  obtain ⟨T6, h6, X6, e6, E6, A6, D6, -, st6⟩ := newO X0 hx hZ hown (hw _ (List.mem_of_getElem? (i := 1) rfl)) (hw _ (List.mem_of_getElem? (i := 2) rfl)) (hw _ (List.mem_of_getElem? (i := 3) rfl)) e0 (g := (mkF m 16 #[s0, s1, s2, s3, s4, s5, s6, s7, s8, s9, s10, .unset, .unset, .unset, .unset, .unset, .unset, .unset, .unset, .unset, .unset] [])) rfl (hb hby at_16) (by decide) (by decide)
  obtain ⟨b6, g6⟩ : ∃ z, z = h0.size := ⟨_, rfl⟩
  rw [← g6] at A6 D6 st6
  have F_updateCommits_b6 : Fld Z h6 b6 "com/example/syncline/syncline/client/bench/KvWorkload$Tally" "updateCommits" "Lcom/example/syncline/syncline/client/bench/Latencies;" .null := D6 (Or.inr (hw _ (List.mem_of_getElem? (i := 22) rfl))) (ty := (.object "com/example/syncline/syncline/client/bench/Latencies")) (by decide)
  have F_local_b6 : Fld Z h6 b6 "com/example/syncline/syncline/client/bench/KvWorkload$Tally" "local" "Lcom/example/syncline/syncline/client/bench/Latencies;" .null := D6 (Or.inr (hw _ (List.mem_of_getElem? (i := 24) rfl))) (ty := (.object "com/example/syncline/syncline/client/bench/Latencies")) (by decide)
  have F_global_b6 : Fld Z h6 b6 "com/example/syncline/syncline/client/bench/KvWorkload$Tally" "global" "Lcom/example/syncline/syncline/client/bench/Latencies;" .null := D6 (Or.inr (hw _ (List.mem_of_getElem? (i := 26) rfl))) (ty := (.object "com/example/syncline/syncline/client/bench/Latencies")) (by decide)
  have F_readOnlyCommitted_b6 : Fld Z h6 b6 "com/example/syncline/syncline/client/bench/KvWorkload$Tally" "readOnlyCommitted" "J" (.long (0 : Int64)) := D6 (Or.inl (hw _ (List.mem_of_getElem? (i := 40) rfl))) (ty := .long) (by decide)
  have F_updateAborted_b6 : Fld Z h6 b6 "com/example/syncline/syncline/client/bench/KvWorkload$Tally" "updateAborted" "J" (.long (0 : Int64)) := D6 (Or.inl (hw _ (List.mem_of_getElem? (i := 52) rfl))) (ty := .long) (by decide)
  have F_readOnlyAborted_b6 : Fld Z h6 b6 "com/example/syncline/syncline/client/bench/KvWorkload$Tally" "readOnlyAborted" "J" (.long (0 : Int64)) := D6 (Or.inl (hw _ (List.mem_of_getElem? (i := 54) rfl))) (ty := .long) (by decide)
  have F_committedWhileAllRan_b6 : Fld Z h6 b6 "com/example/syncline/syncline/client/bench/KvWorkload$Tally" "committedWhileAllRan" "J" (.long (0 : Int64)) := D6 (Or.inl (hw _ (List.mem_of_getElem? (i := 56) rfl))) (ty := .long) (by decide)
  have E_b6 := A6
  have g_b6 : n0 ≤ b6 := Nat.le_trans Z0 (Nat.le_of_eq g6.symm)
  have sz_b6 : h0.size ≤ b6 := (Nat.le_trans (Keep.refl h0 []).1 (Nat.le_of_eq g6.symm))
  have K6 : Keep h0 h6 [] := (Keep.refl h0 []).ext E6
  obtain ⟨_, _, ⟨T7, L7, k7, n7⟩, -, X7, ⟨Lc7, hQ7, l7, y7, z7⟩, st7⟩ := X6.specialBack hx (y := (⟨"com/example/syncline/syncline/client/bench/KvWorkload$Tally", "<init>", "()V"⟩ : MethodName)) rfl hown (mvT hZ (hw _ (List.mem_of_getElem? (i := 4) rfl))) (mvT hZ (hw _ (List.mem_of_getElem? (i := 5) rfl))) (mvT hZ (hw _ (List.mem_of_getElem? (i := 6) rfl))) (by decide) (backOf (W := 1) (rm1 l Z a0 hw [] b6 z .null .null .null h6 n0 (Nat.le_trans Z0 K6.1) E_b6 F_updateCommits_b6 g_b6 F_local_b6 F_global_b6 (own_sta0 SN K6) (V0.keep K6 nin0) F_updateAborted_b6 F_readOnlyCommitted_b6 F_readOnlyAborted_b6 F_committedWhileAllRan_b6) hZ (hw _ (List.mem_of_getElem? (i := 6) rfl)) (hw _ (List.mem_of_getElem? (i := 3) rfl)) (by decide) (by decide)) (g := (mkF m 20 #[s0, s1, s2, s3, s4, s5, s6, s7, s8, s9, s10, .unset, .unset, .unset, .unset, .unset, .unset, .unset, .unset, .unset, .unset] [(.ref b6), (.ref b6)])) rfl (by rw [hml]; rfl) (Steps.refl _) (a := b6) (argsL := []) (rest := [(.ref b6)]) (lenOf pd_0_0 rfl) rfl (by show 2 * 0 + _ ≤ _; exact Nat.le_of_eq rfl) (hb hby at_20) (fun _ _ => ⟨rfl, e6, (Nat.le_of_ble_eq_true rfl), (Nat.le_of_ble_eq_true rfl)⟩)
  dsimp only [Pt.U, Pt.locs, Pt.cells, Pt.slots] at X7 l7 y7 z7 st7 hQ7
  subst l7 y7 z7
  obtain ⟨rfl, N7q, u, lo, gl, TY7, XU, XL, XG, o1, o2, o3, o4, K7⟩ := hQ7
  have KK : Keep h0 T7.heap [] := K6.trans K7 (allS (Or.inr sz_b6) all0)
  have N7 := Fr.app N0 N7q
  refine ⟨b6, T7, _, _, X7, rfl, N7, (Nat.le_trans Z0 KK.1), ⟨u, lo, gl, TY7, XU, XL, XG, sz_b6, Nat.le_trans E6.1 o1, o2, o3, o4, KK⟩, fun target kt => ?_⟩
  show Steps p.tables e below (T0.setTop (mkF m 16 #[s0, s1, s2, s3, s4, s5, s6, s7, s8, s9, s10, .unset, .unset, .unset, .unset, .unset, .unset, .unset, .unset, .unset, .unset] [])) _
  refine st6 _ ?_
  show Steps p.tables e below (T6.setTop (mkF m 19 #[s0, s1, s2, s3, s4, s5, s6, s7, s8, s9, s10, .unset, .unset, .unset, .unset, .unset, .unset, .unset, .unset, .unset, .unset] [(.ref b6)])) _
  refine XS.dup X6.here hx rfl (hb hby at_19) rfl rfl ?_
  show Steps p.tables e below (T6.setTop (mkF m 20 #[s0, s1, s2, s3, s4, s5, s6, s7, s8, s9, s10, .unset, .unset, .unset, .unset, .unset, .unset, .unset, .unset, .unset, .unset] [(.ref b6), (.ref b6)])) _
  refine st7.trans ?_
  show Steps p.tables e below (T7.setTop (mkF m 23 #[s0, s1, s2, s3, s4, s5, s6, s7, s8, s9, s10, .unset, .unset, .unset, .unset, .unset, .unset, .unset, .unset, .unset, .unset] [(.ref b6)])) _
  refine XS.astore X7.here hx rfl (hb hby at_23) rfl rfl (l' := #[s0, s1, s2, s3, s4, s5, s6, s7, s8, s9, s10, .val (.ref b6), .unset, .unset, .unset, .unset, .unset, .unset, .unset, .unset, .unset]) (os0_23 hs11) ?_
  exact kt
theorem os0_32 {s0 : Slot} {s1 : Slot} {s2 : Slot} {s3 : Slot} {s4 : Slot} {s5 : Slot} {s6 : Slot} {s7 : Slot} {s8 : Slot} {s9 : Slot} {s10 : Slot} {s11 : Slot} {s12 : Slot} {s13 : Slot} {s14 : Slot} {s15 : Slot} {s16 : Slot} {s17 : Slot} {s18 : Slot} {s19 : Slot} {s20 : Slot} {v : Addr} (h : One s12) : storeLocals #[s0, s1, s2, s3, s4, s5, s6, s7, s8, s9, s10, s11, s12, s13, s14, s15, s16, s17, s18, s19, s20] 12 (.ref v) = some #[s0, s1, s2, s3, s4, s5, s6, s7, s8, s9, s10, s11, .val (.ref v), s13, s14, s15, s16, s17, s18, s19, s20] := by
  rcases h with rfl | ⟨w, rfl, hw⟩
  · rfl
  · cases w <;> first | rfl | (simp [Value.category] at hw)
set_option maxRecDepth 65536 in
set_option maxHeartbeats 40000000 in
theorem tn0_25_34 {p : Program} {l : Launch} {e : Env} {s : State} {m : MethodId} {args : Array Value} {below : List Frame} {meth : Method} {c : Code} {T0 : State} {locs : List Loc} {Z : State} {a0 : Array Value} {h0 : Heap} {n0 : Nat} (s0 : Slot) (s1 : Slot) (s2 : Slot) (s3 : Slot) (s4 : Slot) (s5 : Slot) (s6 : Slot) (s7 : Slot) (s8 : Slot) (s9 : Slot) (s10 : Slot) (s11 : Slot) (z : Addr)
    (X0 : Stand p l e room_1 s m args below meth c T0 locs 4 13) (hx : p.tables.exec = Jvm.exec) (hZ : Z.Warmed39 s.vm) (hw : ∀ d ∈ tables_1, d.before a0 Z = true) (hby : c.code = code) (hml : c.maxLocals = 21) (hown : s.vm.findClass "com/example/syncline/syncline/client/bench/TallyCommittedPinLaw" = some m.cls) (e0 : T0.heap = h0) (N0 : Fr n0 locs) (Z0 : n0 ≤ h0.size) (hs12 : One .unset) (SN : Sta Z h0 "com/example/syncline/syncline/client/bench/Latencies" "NONE" "[J" (.ref z)) (V0 : own_AF Z h0 z .long 0 (fun _ => .long 0)) :
    ∃ (b6 : Addr) (T' : State) (h' : Heap) (locs' : List Loc), Stand p l e room_1 s m args below meth c T' locs' 8 26 ∧ T'.heap = h' ∧ Fr n0 locs' ∧ n0 ≤ h'.size ∧ (∃ u lo gl : Addr, own_TY Z n0 h' b6 u lo gl ∧ own_LT Z n0 h' u z 0 ∧ own_LT Z n0 h' lo z 0 ∧ own_LT Z n0 h' gl z 0 ∧ h0.size ≤ b6 ∧ h0.size ≤ u ∧ u < lo ∧ lo < gl ∧ gl < h'.size ∧ Keep h0 h' []) ∧
      ∀ target, Steps p.tables e below (T'.setTop (mkF m 34 #[s0, s1, s2, s3, s4, s5, s6, s7, s8, s9, s10, s11, .val (.ref b6), .unset, .unset, .unset, .unset, .unset, .unset, .unset, .unset] [])) target → Steps p.tables e below (T0.setTop (mkF m 25 #[s0, s1, s2, s3, s4, s5, s6, s7, s8, s9, s10, s11, .unset, .unset, .unset, .unset, .unset, .unset, .unset, .unset, .unset] [])) target := by
  obtain ⟨T6, h6, X6, e6, E6, A6, D6, -, st6⟩ := newO X0 hx hZ hown (hw _ (List.mem_of_getElem? (i := 1) rfl)) (hw _ (List.mem_of_getElem? (i := 2) rfl)) (hw _ (List.mem_of_getElem? (i := 3) rfl)) e0 (g := (mkF m 25 #[s0, s1, s2, s3, s4, s5, s6, s7, s8, s9, s10, s11, .unset, .unset, .unset, .unset, .unset, .unset, .unset, .unset, .unset] [])) rfl (hb hby at_25) (by decide) (by decide)
  obtain ⟨b6, g6⟩ : ∃ z, z = h0.size := ⟨_, rfl⟩
  rw [← g6] at A6 D6 st6
  have F_updateCommits_b6 : Fld Z h6 b6 "com/example/syncline/syncline/client/bench/KvWorkload$Tally" "updateCommits" "Lcom/example/syncline/syncline/client/bench/Latencies;" .null := D6 (Or.inr (hw _ (List.mem_of_getElem? (i := 22) rfl))) (ty := (.object "com/example/syncline/syncline/client/bench/Latencies")) (by decide)
  have F_local_b6 : Fld Z h6 b6 "com/example/syncline/syncline/client/bench/KvWorkload$Tally" "local" "Lcom/example/syncline/syncline/client/bench/Latencies;" .null := D6 (Or.inr (hw _ (List.mem_of_getElem? (i := 24) rfl))) (ty := (.object "com/example/syncline/syncline/client/bench/Latencies")) (by decide)
  have F_global_b6 : Fld Z h6 b6 "com/example/syncline/syncline/client/bench/KvWorkload$Tally" "global" "Lcom/example/syncline/syncline/client/bench/Latencies;" .null := D6 (Or.inr (hw _ (List.mem_of_getElem? (i := 26) rfl))) (ty := (.object "com/example/syncline/syncline/client/bench/Latencies")) (by decide)
  have F_readOnlyCommitted_b6 : Fld Z h6 b6 "com/example/syncline/syncline/client/bench/KvWorkload$Tally" "readOnlyCommitted" "J" (.long (0 : Int64)) := D6 (Or.inl (hw _ (List.mem_of_getElem? (i := 40) rfl))) (ty := .long) (by decide)
  have F_updateAborted_b6 : Fld Z h6 b6 "com/example/syncline/syncline/client/bench/KvWorkload$Tally" "updateAborted" "J" (.long (0 : Int64)) := D6 (Or.inl (hw _ (List.mem_of_getElem? (i := 52) rfl))) (ty := .long) (by decide)
  have F_readOnlyAborted_b6 : Fld Z h6 b6 "com/example/syncline/syncline/client/bench/KvWorkload$Tally" "readOnlyAborted" "J" (.long (0 : Int64)) := D6 (Or.inl (hw _ (List.mem_of_getElem? (i := 54) rfl))) (ty := .long) (by decide)
  have F_committedWhileAllRan_b6 : Fld Z h6 b6 "com/example/syncline/syncline/client/bench/KvWorkload$Tally" "committedWhileAllRan" "J" (.long (0 : Int64)) := D6 (Or.inl (hw _ (List.mem_of_getElem? (i := 56) rfl))) (ty := .long) (by decide)
  have E_b6 := A6
  have g_b6 : n0 ≤ b6 := Nat.le_trans Z0 (Nat.le_of_eq g6.symm)
  have sz_b6 : h0.size ≤ b6 := (Nat.le_trans (Keep.refl h0 []).1 (Nat.le_of_eq g6.symm))
  have K6 : Keep h0 h6 [] := (Keep.refl h0 []).ext E6
  obtain ⟨_, _, ⟨T7, L7, k7, n7⟩, -, X7, ⟨Lc7, hQ7, l7, y7, z7⟩, st7⟩ := X6.specialBack hx (y := (⟨"com/example/syncline/syncline/client/bench/KvWorkload$Tally", "<init>", "()V"⟩ : MethodName)) rfl hown (mvT hZ (hw _ (List.mem_of_getElem? (i := 4) rfl))) (mvT hZ (hw _ (List.mem_of_getElem? (i := 5) rfl))) (mvT hZ (hw _ (List.mem_of_getElem? (i := 6) rfl))) (by decide) (backOf (W := 1) (rm1 l Z a0 hw [] b6 z .null .null .null h6 n0 (Nat.le_trans Z0 K6.1) E_b6 F_updateCommits_b6 g_b6 F_local_b6 F_global_b6 (own_sta0 SN K6) (V0.keep K6 nin0) F_updateAborted_b6 F_readOnlyCommitted_b6 F_readOnlyAborted_b6 F_committedWhileAllRan_b6) hZ (hw _ (List.mem_of_getElem? (i := 6) rfl)) (hw _ (List.mem_of_getElem? (i := 3) rfl)) (by decide) (by decide)) (g := (mkF m 29 #[s0, s1, s2, s3, s4, s5, s6, s7, s8, s9, s10, s11, .unset, .unset, .unset, .unset, .unset, .unset, .unset, .unset, .unset] [(.ref b6), (.ref b6)])) rfl (by rw [hml]; rfl) (Steps.refl _) (a := b6) (argsL := []) (rest := [(.ref b6)]) (lenOf pd_0_0 rfl) rfl (by show 2 * 0 + _ ≤ _; exact Nat.le_of_eq rfl) (hb hby at_29) (fun _ _ => ⟨rfl, e6, (Nat.le_of_ble_eq_true rfl), (Nat.le_of_ble_eq_true rfl)⟩)
  dsimp only [Pt.U, Pt.locs, Pt.cells, Pt.slots] at X7 l7 y7 z7 st7 hQ7
  subst l7 y7 z7
  obtain ⟨rfl, N7q, u, lo, gl, TY7, XU, XL, XG, o1, o2, o3, o4, K7⟩ := hQ7
  have KK : Keep h0 T7.heap [] := K6.trans K7 (allS (Or.inr sz_b6) all0)
  have N7 := Fr.app N0 N7q
  refine ⟨b6, T7, _, _, X7, rfl, N7, (Nat.le_trans Z0 KK.1), ⟨u, lo, gl, TY7, XU, XL, XG, sz_b6, Nat.le_trans E6.1 o1, o2, o3, o4, KK⟩, fun target kt => ?_⟩
  show Steps p.tables e below (T0.setTop (mkF m 25 #[s0, s1, s2, s3, s4, s5, s6, s7, s8, s9, s10, s11, .unset, .unset, .unset, .unset, .unset, .unset, .unset, .unset, .unset] [])) _
  refine st6 _ ?_
  show Steps p.tables e below (T6.setTop (mkF m 28 #[s0, s1, s2, s3, s4, s5, s6, s7, s8, s9, s10, s11, .unset, .unset, .unset, .unset, .unset, .unset, .unset, .unset, .unset] [(.ref b6)])) _
  refine XS.dup X6.here hx rfl (hb hby at_28) rfl rfl ?_
  show Steps p.tables e below (T6.setTop (mkF m 29 #[s0, s1, s2, s3, s4, s5, s6, s7, s8, s9, s10, s11, .unset, .unset, .unset, .unset, .unset, .unset, .unset, .unset, .unset] [(.ref b6), (.ref b6)])) _
  refine st7.trans ?_
  show Steps p.tables e below (T7.setTop (mkF m 32 #[s0, s1, s2, s3, s4, s5, s6, s7, s8, s9, s10, s11, .unset, .unset, .unset, .unset, .unset, .unset, .unset, .unset, .unset] [(.ref b6)])) _
  refine XS.astore X7.here hx rfl (hb hby at_32) rfl rfl (l' := #[s0, s1, s2, s3, s4, s5, s6, s7, s8, s9, s10, s11, .val (.ref b6), .unset, .unset, .unset, .unset, .unset, .unset, .unset, .unset]) (os0_32 hs12) ?_
  exact kt
theorem pd_0_5 : parseMethodDescriptor "(J)V" = some ⟨[.long], none⟩ := by decide +kernel
set_option maxRecDepth 65536 in
set_option maxHeartbeats 40000000 in
theorem own_ad34 {p : Program} {l : Launch} {e : Env} {s : State} {m : MethodId} {args : Array Value} {below : List Frame} {meth : Method} {c : Code} {T0 : State} {locs : List Loc} {Z : State} {a0 : Array Value} {h0 : Heap} {n0 : Nat} (s0 : Slot) (j1 : Int64) (s3 : Slot) (s4 : Slot) (s5 : Slot) (s6 : Slot) (s7 : Slot) (s8 : Slot) (i9 : Int32) (s10 : Slot) (o11 : Addr) (s12 : Slot) (s13 : Slot) (s14 : Slot) (s15 : Slot) (s16 : Slot) (s17 : Slot) (s18 : Slot) (s19 : Slot) (s20 : Slot) (z uA lA gA wA : Addr) (n : Nat) (tB uB lB gB wB : Addr) (mm : Nat)
    (X0 : Stand p l e room_1 s m args below meth c T0 locs 8 26) (hx : p.tables.exec = Jvm.exec) (hZ : Z.Warmed39 s.vm) (hw : ∀ d ∈ tables_1, d.before a0 Z = true) (hby : c.code = code) (hml : c.maxLocals = 21) (hown : s.vm.findClass "com/example/syncline/syncline/client/bench/TallyCommittedPinLaw" = some m.cls) (e0 : T0.heap = h0) (N0 : Fr n0 locs) (Z0 : n0 ≤ h0.size) (E_o11 : Exa Z h0 o11 "com/example/syncline/syncline/client/bench/KvWorkload$Tally") (hc37 : ¬ (i9 < (1 : Int32))) (S : own_S Z n0 h0 z o11 uA lA gA wA n tB uB lB gB wB mm) (hn : n < 4) :
    ∃ (T' : State) (h' : Heap) (locs' : List Loc), Stand p l e room_1 s m args below meth c T' locs' 9 30 ∧ T'.heap = h' ∧ Fr n0 locs' ∧ n0 ≤ h'.size ∧ (∃ w', own_S Z n0 h' z o11 uA lA gA w' (n + 1) tB uB lB gB wB mm) ∧
      ∀ target, Steps p.tables e below (T'.setTop (mkF m 46 #[s0, .val (.long j1), .second, s3, s4, s5, s6, s7, s8, .val (.int i9), s10, .val (.ref o11), s12, s13, s14, s15, s16, s17, s18, s19, s20] [])) target → Steps p.tables e below (T0.setTop (mkF m 34 #[s0, .val (.long j1), .second, s3, s4, s5, s6, s7, s8, .val (.int i9), s10, .val (.ref o11), s12, s13, s14, s15, s16, s17, s18, s19, s20] [])) target := by
  obtain ⟨cq6, kq6, q6a, q6b, q6c⟩ := isOf hZ e0 E_o11
  obtain ⟨_, _, ⟨T6, L6, k6, n6⟩, -, X6, ⟨Lc6, hQ6, l6, y6, z6⟩, st6⟩ := X0.virtualBack hx (y := (⟨"com/example/syncline/syncline/client/bench/KvWorkload$Tally", "addCommittedUpdate", "(J)V"⟩ : MethodName)) (z := (⟨"com/example/syncline/syncline/client/bench/KvWorkload$Tally", "addCommittedUpdate", "(J)V"⟩ : MethodName)) hown (mvT hZ (hw _ (List.mem_of_getElem? (i := 57) rfl))) (mvT hZ (hw _ (List.mem_of_getElem? (i := 58) rfl))) (notFace_of_selects (args := #[]) (mvT hZ (hw _ (List.mem_of_getElem? (i := 60) rfl)))) (mvT hZ (hw _ (List.mem_of_getElem? (i := 60) rfl))) (mvT hZ (hw _ (List.mem_of_getElem? (i := 59) rfl))) (by decide) (backOf (W := 0) (rm8 l Z a0 hw [] o11 j1 uA wA n h0 n0 Z0 S.1.2.2.1 S.2.2.1 hn) hZ (hw _ (List.mem_of_getElem? (i := 61) rfl)) (hw _ (List.mem_of_getElem? (i := 3) rfl)) (by decide) (by decide)) q6a q6c (g := (mkF m 43 #[s0, .val (.long j1), .second, s3, s4, s5, s6, s7, s8, .val (.int i9), s10, .val (.ref o11), s12, s13, s14, s15, s16, s17, s18, s19, s20] [(.long j1), (.ref o11)])) rfl (by rw [hml]; rfl) (Steps.refl _) (argsL := [(.long j1)]) (rest := []) (lenOf pd_0_5 rfl) rfl (by show 2 * 0 + _ ≤ _; exact Nat.le_of_eq rfl) (hb hby at_43) (fun _ _ => ⟨rfl, e0, (Nat.le_of_ble_eq_true rfl), (Nat.le_of_ble_eq_true rfl)⟩)
  dsimp only [Pt.U, Pt.locs, Pt.cells, Pt.slots] at X6 l6 y6 z6 st6 hQ6
  subst l6 y6 z6
  obtain ⟨rfl, N6q, w1, Q1_⟩ := hQ6
  have N6 := Fr.app N0 N6q
  refine ⟨T6, _, _, X6, rfl, N6, (Nat.le_trans Z0 Q1_.2.1.size), ⟨w1, S.addA (hw _ (List.mem_of_getElem? (i := 11) rfl)) (hw _ (List.mem_of_getElem? (i := 2) rfl)) Q1_⟩, fun target kt => ?_⟩
  show Steps p.tables e below (T0.setTop (mkF m 34 #[s0, .val (.long j1), .second, s3, s4, s5, s6, s7, s8, .val (.int i9), s10, .val (.ref o11), s12, s13, s14, s15, s16, s17, s18, s19, s20] [])) _
  refine XS.iload X0.here hx rfl (hb hby at_34) rfl ?_
  show Steps p.tables e below (T0.setTop (mkF m 36 #[s0, .val (.long j1), .second, s3, s4, s5, s6, s7, s8, .val (.int i9), s10, .val (.ref o11), s12, s13, s14, s15, s16, s17, s18, s19, s20] [(.int i9)])) _
  refine XS.iconst X0.here hx rfl (hb hby at_36) ?_
  show Steps p.tables e below (T0.setTop (mkF m 37 #[s0, .val (.long j1), .second, s3, s4, s5, s6, s7, s8, .val (.int i9), s10, .val (.ref o11), s12, s13, s14, s15, s16, s17, s18, s19, s20] [(.int (1 : Int32)), (.int i9)])) _
  refine XS.icmpNo X0.here hx rfl (hb hby at_37) rfl (flt hc37).1 ?_
  show Steps p.tables e below (T0.setTop (mkF m 40 #[s0, .val (.long j1), .second, s3, s4, s5, s6, s7, s8, .val (.int i9), s10, .val (.ref o11), s12, s13, s14, s15, s16, s17, s18, s19, s20] [])) _
  refine XS.aload X0.here hx rfl (hb hby at_40) rfl rfl ?_
  show Steps p.tables e below (T0.setTop (mkF m 42 #[s0, .val (.long j1), .second, s3, s4, s5, s6, s7, s8, .val (.int i9), s10, .val (.ref o11), s12, s13, s14, s15, s16, s17, s18, s19, s20] [(.ref o11)])) _
  refine XS.lloadN X0.here hx rfl (hb hby at_42) rfl ?_
  show Steps p.tables e below (T0.setTop (mkF m 43 #[s0, .val (.long j1), .second, s3, s4, s5, s6, s7, s8, .val (.int i9), s10, .val (.ref o11), s12, s13, s14, s15, s16, s17, s18, s19, s20] [(.long j1), (.ref o11)])) _
  refine st6.trans ?_
  exact kt
set_option maxRecDepth 65536 in
set_option maxHeartbeats 40000000 in
theorem own_sk34 {p : Program} {l : Launch} {e : Env} {R : Room} {s : State} {m : MethodId} {args : Array Value} {below : List Frame} {meth : Method} {c : Code} {T0 : State} {locs : List Loc} {cells slots : Nat} {Z : State} {a0 : Array Value} {h0 : Heap} (s0 : Slot) (s1 : Slot) (s2 : Slot) (s3 : Slot) (s4 : Slot) (s5 : Slot) (s6 : Slot) (s7 : Slot) (s8 : Slot) (i9 : Int32) (s10 : Slot) (s11 : Slot) (s12 : Slot) (s13 : Slot) (s14 : Slot) (s15 : Slot) (s16 : Slot) (s17 : Slot) (s18 : Slot) (s19 : Slot) (s20 : Slot)
    (X0 : Stand p l e R s m args below meth c T0 locs cells slots) (hx : p.tables.exec = Jvm.exec) (hZ : Z.Warmed39 s.vm) (hw : ∀ d ∈ tables_1, d.before a0 Z = true) (hby : c.code = code) (hml : c.maxLocals = 21) (hown : s.vm.findClass "com/example/syncline/syncline/client/bench/TallyCommittedPinLaw" = some m.cls) (e0 : T0.heap = h0) (hc37 : i9 < (1 : Int32)) :
    ∃ (T' : State), Stand p l e R s m args below meth c T' locs cells slots ∧ T'.heap = h0 ∧
      ∀ target, Steps p.tables e below (T'.setTop (mkF m 46 #[s0, s1, s2, s3, s4, s5, s6, s7, s8, .val (.int i9), s10, s11, s12, s13, s14, s15, s16, s17, s18, s19, s20] [])) target → Steps p.tables e below (T0.setTop (mkF m 34 #[s0, s1, s2, s3, s4, s5, s6, s7, s8, .val (.int i9), s10, s11, s12, s13, s14, s15, s16, s17, s18, s19, s20] [])) target := by

  refine ⟨T0, X0, e0, fun target kt => ?_⟩
  show Steps p.tables e below (T0.setTop (mkF m 34 #[s0, s1, s2, s3, s4, s5, s6, s7, s8, .val (.int i9), s10, s11, s12, s13, s14, s15, s16, s17, s18, s19, s20] [])) _
  refine XS.iload X0.here hx rfl (hb hby at_34) rfl ?_
  show Steps p.tables e below (T0.setTop (mkF m 36 #[s0, s1, s2, s3, s4, s5, s6, s7, s8, .val (.int i9), s10, s11, s12, s13, s14, s15, s16, s17, s18, s19, s20] [(.int i9)])) _
  refine XS.iconst X0.here hx rfl (hb hby at_36) ?_
  show Steps p.tables e below (T0.setTop (mkF m 37 #[s0, s1, s2, s3, s4, s5, s6, s7, s8, .val (.int i9), s10, s11, s12, s13, s14, s15, s16, s17, s18, s19, s20] [(.int (1 : Int32)), (.int i9)])) _
  refine XS.icmpYes X0.here hx rfl (pc0 := 37) (pc' := 46) rfl (hb hby at_37) rfl (tlt hc37).1 (by decide) (by decide) ?_
  exact kt
set_option maxRecDepth 65536 in
set_option maxHeartbeats 40000000 in
theorem own_ad46 {p : Program} {l : Launch} {e : Env} {s : State} {m : MethodId} {args : Array Value} {below : List Frame} {meth : Method} {c : Code} {T0 : State} {locs : List Loc} {Z : State} {a0 : Array Value} {h0 : Heap} {n0 : Nat} (s0 : Slot) (s1 : Slot) (s2 : Slot) (j3 : Int64) (s5 : Slot) (s6 : Slot) (s7 : Slot) (s8 : Slot) (i9 : Int32) (s10 : Slot) (o11 : Addr) (s12 : Slot) (s13 : Slot) (s14 : Slot) (s15 : Slot) (s16 : Slot) (s17 : Slot) (s18 : Slot) (s19 : Slot) (s20 : Slot) (z uA lA gA wA : Addr) (n : Nat) (tB uB lB gB wB : Addr) (mm : Nat)
    (X0 : Stand p l e room_1 s m args below meth c T0 locs 9 30) (hx : p.tables.exec = Jvm.exec) (hZ : Z.Warmed39 s.vm) (hw : ∀ d ∈ tables_1, d.before a0 Z = true) (hby : c.code = code) (hml : c.maxLocals = 21) (hown : s.vm.findClass "com/example/syncline/syncline/client/bench/TallyCommittedPinLaw" = some m.cls) (e0 : T0.heap = h0) (N0 : Fr n0 locs) (Z0 : n0 ≤ h0.size) (E_o11 : Exa Z h0 o11 "com/example/syncline/syncline/client/bench/KvWorkload$Tally") (hc49 : ¬ (i9 < (2 : Int32))) (S : own_S Z n0 h0 z o11 uA lA gA wA n tB uB lB gB wB mm) (hn : n < 4) :
    ∃ (T' : State) (h' : Heap) (locs' : List Loc), Stand p l e room_1 s m args below meth c T' locs' 10 34 ∧ T'.heap = h' ∧ Fr n0 locs' ∧ n0 ≤ h'.size ∧ (∃ w', own_S Z n0 h' z o11 uA lA gA w' (n + 1) tB uB lB gB wB mm) ∧
      ∀ target, Steps p.tables e below (T'.setTop (mkF m 58 #[s0, s1, s2, .val (.long j3), .second, s5, s6, s7, s8, .val (.int i9), s10, .val (.ref o11), s12, s13, s14, s15, s16, s17, s18, s19, s20] [])) target → Steps p.tables e below (T0.setTop (mkF m 46 #[s0, s1, s2, .val (.long j3), .second, s5, s6, s7, s8, .val (.int i9), s10, .val (.ref o11), s12, s13, s14, s15, s16, s17, s18, s19, s20] [])) target := by
  obtain ⟨cq6, kq6, q6a, q6b, q6c⟩ := isOf hZ e0 E_o11
  obtain ⟨_, _, ⟨T6, L6, k6, n6⟩, -, X6, ⟨Lc6, hQ6, l6, y6, z6⟩, st6⟩ := X0.virtualBack hx (y := (⟨"com/example/syncline/syncline/client/bench/KvWorkload$Tally", "addCommittedUpdate", "(J)V"⟩ : MethodName)) (z := (⟨"com/example/syncline/syncline/client/bench/KvWorkload$Tally", "addCommittedUpdate", "(J)V"⟩ : MethodName)) hown (mvT hZ (hw _ (List.mem_of_getElem? (i := 57) rfl))) (mvT hZ (hw _ (List.mem_of_getElem? (i := 58) rfl))) (notFace_of_selects (args := #[]) (mvT hZ (hw _ (List.mem_of_getElem? (i := 60) rfl)))) (mvT hZ (hw _ (List.mem_of_getElem? (i := 60) rfl))) (mvT hZ (hw _ (List.mem_of_getElem? (i := 59) rfl))) (by decide) (backOf (W := 0) (rm8 l Z a0 hw [] o11 j3 uA wA n h0 n0 Z0 S.1.2.2.1 S.2.2.1 hn) hZ (hw _ (List.mem_of_getElem? (i := 61) rfl)) (hw _ (List.mem_of_getElem? (i := 3) rfl)) (by decide) (by decide)) q6a q6c (g := (mkF m 55 #[s0, s1, s2, .val (.long j3), .second, s5, s6, s7, s8, .val (.int i9), s10, .val (.ref o11), s12, s13, s14, s15, s16, s17, s18, s19, s20] [(.long j3), (.ref o11)])) rfl (by rw [hml]; rfl) (Steps.refl _) (argsL := [(.long j3)]) (rest := []) (lenOf pd_0_5 rfl) rfl (by show 2 * 0 + _ ≤ _; exact Nat.le_of_eq rfl) (hb hby at_55) (fun _ _ => ⟨rfl, e0, (Nat.le_of_ble_eq_true rfl), (Nat.le_of_ble_eq_true rfl)⟩)
  dsimp only [Pt.U, Pt.locs, Pt.cells, Pt.slots] at X6 l6 y6 z6 st6 hQ6
  subst l6 y6 z6
  obtain ⟨rfl, N6q, w1, Q1_⟩ := hQ6
  have N6 := Fr.app N0 N6q
  refine ⟨T6, _, _, X6, rfl, N6, (Nat.le_trans Z0 Q1_.2.1.size), ⟨w1, S.addA (hw _ (List.mem_of_getElem? (i := 11) rfl)) (hw _ (List.mem_of_getElem? (i := 2) rfl)) Q1_⟩, fun target kt => ?_⟩
  show Steps p.tables e below (T0.setTop (mkF m 46 #[s0, s1, s2, .val (.long j3), .second, s5, s6, s7, s8, .val (.int i9), s10, .val (.ref o11), s12, s13, s14, s15, s16, s17, s18, s19, s20] [])) _
  refine XS.iload X0.here hx rfl (hb hby at_46) rfl ?_
  show Steps p.tables e below (T0.setTop (mkF m 48 #[s0, s1, s2, .val (.long j3), .second, s5, s6, s7, s8, .val (.int i9), s10, .val (.ref o11), s12, s13, s14, s15, s16, s17, s18, s19, s20] [(.int i9)])) _
  refine XS.iconst X0.here hx rfl (hb hby at_48) ?_
  show Steps p.tables e below (T0.setTop (mkF m 49 #[s0, s1, s2, .val (.long j3), .second, s5, s6, s7, s8, .val (.int i9), s10, .val (.ref o11), s12, s13, s14, s15, s16, s17, s18, s19, s20] [(.int (2 : Int32)), (.int i9)])) _
  refine XS.icmpNo X0.here hx rfl (hb hby at_49) rfl (flt hc49).1 ?_
  show Steps p.tables e below (T0.setTop (mkF m 52 #[s0, s1, s2, .val (.long j3), .second, s5, s6, s7, s8, .val (.int i9), s10, .val (.ref o11), s12, s13, s14, s15, s16, s17, s18, s19, s20] [])) _
  refine XS.aload X0.here hx rfl (hb hby at_52) rfl rfl ?_
  show Steps p.tables e below (T0.setTop (mkF m 54 #[s0, s1, s2, .val (.long j3), .second, s5, s6, s7, s8, .val (.int i9), s10, .val (.ref o11), s12, s13, s14, s15, s16, s17, s18, s19, s20] [(.ref o11)])) _
  refine XS.lloadN X0.here hx rfl (hb hby at_54) rfl ?_
  show Steps p.tables e below (T0.setTop (mkF m 55 #[s0, s1, s2, .val (.long j3), .second, s5, s6, s7, s8, .val (.int i9), s10, .val (.ref o11), s12, s13, s14, s15, s16, s17, s18, s19, s20] [(.long j3), (.ref o11)])) _
  refine st6.trans ?_
  exact kt
set_option maxRecDepth 65536 in
set_option maxHeartbeats 40000000 in
theorem own_sk46 {p : Program} {l : Launch} {e : Env} {R : Room} {s : State} {m : MethodId} {args : Array Value} {below : List Frame} {meth : Method} {c : Code} {T0 : State} {locs : List Loc} {cells slots : Nat} {Z : State} {a0 : Array Value} {h0 : Heap} (s0 : Slot) (s1 : Slot) (s2 : Slot) (s3 : Slot) (s4 : Slot) (s5 : Slot) (s6 : Slot) (s7 : Slot) (s8 : Slot) (i9 : Int32) (s10 : Slot) (s11 : Slot) (s12 : Slot) (s13 : Slot) (s14 : Slot) (s15 : Slot) (s16 : Slot) (s17 : Slot) (s18 : Slot) (s19 : Slot) (s20 : Slot)
    (X0 : Stand p l e R s m args below meth c T0 locs cells slots) (hx : p.tables.exec = Jvm.exec) (hZ : Z.Warmed39 s.vm) (hw : ∀ d ∈ tables_1, d.before a0 Z = true) (hby : c.code = code) (hml : c.maxLocals = 21) (hown : s.vm.findClass "com/example/syncline/syncline/client/bench/TallyCommittedPinLaw" = some m.cls) (e0 : T0.heap = h0) (hc49 : i9 < (2 : Int32)) :
    ∃ (T' : State), Stand p l e R s m args below meth c T' locs cells slots ∧ T'.heap = h0 ∧
      ∀ target, Steps p.tables e below (T'.setTop (mkF m 58 #[s0, s1, s2, s3, s4, s5, s6, s7, s8, .val (.int i9), s10, s11, s12, s13, s14, s15, s16, s17, s18, s19, s20] [])) target → Steps p.tables e below (T0.setTop (mkF m 46 #[s0, s1, s2, s3, s4, s5, s6, s7, s8, .val (.int i9), s10, s11, s12, s13, s14, s15, s16, s17, s18, s19, s20] [])) target := by

  refine ⟨T0, X0, e0, fun target kt => ?_⟩
  show Steps p.tables e below (T0.setTop (mkF m 46 #[s0, s1, s2, s3, s4, s5, s6, s7, s8, .val (.int i9), s10, s11, s12, s13, s14, s15, s16, s17, s18, s19, s20] [])) _
  refine XS.iload X0.here hx rfl (hb hby at_46) rfl ?_
  show Steps p.tables e below (T0.setTop (mkF m 48 #[s0, s1, s2, s3, s4, s5, s6, s7, s8, .val (.int i9), s10, s11, s12, s13, s14, s15, s16, s17, s18, s19, s20] [(.int i9)])) _
  refine XS.iconst X0.here hx rfl (hb hby at_48) ?_
  show Steps p.tables e below (T0.setTop (mkF m 49 #[s0, s1, s2, s3, s4, s5, s6, s7, s8, .val (.int i9), s10, s11, s12, s13, s14, s15, s16, s17, s18, s19, s20] [(.int (2 : Int32)), (.int i9)])) _
  refine XS.icmpYes X0.here hx rfl (pc0 := 49) (pc' := 58) rfl (hb hby at_49) rfl (tlt hc49).1 (by decide) (by decide) ?_
  exact kt
set_option maxRecDepth 65536 in
set_option maxHeartbeats 40000000 in
theorem own_ad58 {p : Program} {l : Launch} {e : Env} {s : State} {m : MethodId} {args : Array Value} {below : List Frame} {meth : Method} {c : Code} {T0 : State} {locs : List Loc} {Z : State} {a0 : Array Value} {h0 : Heap} {n0 : Nat} (s0 : Slot) (s1 : Slot) (s2 : Slot) (s3 : Slot) (s4 : Slot) (j5 : Int64) (s7 : Slot) (s8 : Slot) (s9 : Slot) (i10 : Int32) (s11 : Slot) (o12 : Addr) (s13 : Slot) (s14 : Slot) (s15 : Slot) (s16 : Slot) (s17 : Slot) (s18 : Slot) (s19 : Slot) (s20 : Slot) (z tA uA lA gA wA : Addr) (n : Nat) (uB lB gB wB : Addr) (mm : Nat)
    (X0 : Stand p l e room_1 s m args below meth c T0 locs 10 34) (hx : p.tables.exec = Jvm.exec) (hZ : Z.Warmed39 s.vm) (hw : ∀ d ∈ tables_1, d.before a0 Z = true) (hby : c.code = code) (hml : c.maxLocals = 21) (hown : s.vm.findClass "com/example/syncline/syncline/client/bench/TallyCommittedPinLaw" = some m.cls) (e0 : T0.heap = h0) (N0 : Fr n0 locs) (Z0 : n0 ≤ h0.size) (E_o12 : Exa Z h0 o12 "com/example/syncline/syncline/client/bench/KvWorkload$Tally") (hc61 : ¬ (i10 < (1 : Int32))) (S : own_S Z n0 h0 z tA uA lA gA wA n o12 uB lB gB wB mm) (hn : mm < 4) :
    ∃ (T' : State) (h' : Heap) (locs' : List Loc), Stand p l e room_1 s m args below meth c T' locs' 11 38 ∧ T'.heap = h' ∧ Fr n0 locs' ∧ n0 ≤ h'.size ∧ (∃ w', own_S Z n0 h' z tA uA lA gA wA n o12 uB lB gB w' (mm + 1)) ∧
      ∀ target, Steps p.tables e below (T'.setTop (mkF m 71 #[s0, s1, s2, s3, s4, .val (.long j5), .second, s7, s8, s9, .val (.int i10), s11, .val (.ref o12), s13, s14, s15, s16, s17, s18, s19, s20] [])) target → Steps p.tables e below (T0.setTop (mkF m 58 #[s0, s1, s2, s3, s4, .val (.long j5), .second, s7, s8, s9, .val (.int i10), s11, .val (.ref o12), s13, s14, s15, s16, s17, s18, s19, s20] [])) target := by
  obtain ⟨cq6, kq6, q6a, q6b, q6c⟩ := isOf hZ e0 E_o12
  obtain ⟨_, _, ⟨T6, L6, k6, n6⟩, -, X6, ⟨Lc6, hQ6, l6, y6, z6⟩, st6⟩ := X0.virtualBack hx (y := (⟨"com/example/syncline/syncline/client/bench/KvWorkload$Tally", "addCommittedUpdate", "(J)V"⟩ : MethodName)) (z := (⟨"com/example/syncline/syncline/client/bench/KvWorkload$Tally", "addCommittedUpdate", "(J)V"⟩ : MethodName)) hown (mvT hZ (hw _ (List.mem_of_getElem? (i := 57) rfl))) (mvT hZ (hw _ (List.mem_of_getElem? (i := 58) rfl))) (notFace_of_selects (args := #[]) (mvT hZ (hw _ (List.mem_of_getElem? (i := 60) rfl)))) (mvT hZ (hw _ (List.mem_of_getElem? (i := 60) rfl))) (mvT hZ (hw _ (List.mem_of_getElem? (i := 59) rfl))) (by decide) (backOf (W := 0) (rm8 l Z a0 hw [] o12 j5 uB wB mm h0 n0 Z0 S.2.1.2.2.1 S.2.2.2.1 hn) hZ (hw _ (List.mem_of_getElem? (i := 61) rfl)) (hw _ (List.mem_of_getElem? (i := 3) rfl)) (by decide) (by decide)) q6a q6c (g := (mkF m 68 #[s0, s1, s2, s3, s4, .val (.long j5), .second, s7, s8, s9, .val (.int i10), s11, .val (.ref o12), s13, s14, s15, s16, s17, s18, s19, s20] [(.long j5), (.ref o12)])) rfl (by rw [hml]; rfl) (Steps.refl _) (argsL := [(.long j5)]) (rest := []) (lenOf pd_0_5 rfl) rfl (by show 2 * 0 + _ ≤ _; exact Nat.le_of_eq rfl) (hb hby at_68) (fun _ _ => ⟨rfl, e0, (Nat.le_of_ble_eq_true rfl), (Nat.le_of_ble_eq_true rfl)⟩)
  dsimp only [Pt.U, Pt.locs, Pt.cells, Pt.slots] at X6 l6 y6 z6 st6 hQ6
  subst l6 y6 z6
  obtain ⟨rfl, N6q, w1, Q1_⟩ := hQ6
  have N6 := Fr.app N0 N6q
  refine ⟨T6, _, _, X6, rfl, N6, (Nat.le_trans Z0 Q1_.2.1.size), ⟨w1, S.addB (hw _ (List.mem_of_getElem? (i := 11) rfl)) (hw _ (List.mem_of_getElem? (i := 2) rfl)) Q1_⟩, fun target kt => ?_⟩
  show Steps p.tables e below (T0.setTop (mkF m 58 #[s0, s1, s2, s3, s4, .val (.long j5), .second, s7, s8, s9, .val (.int i10), s11, .val (.ref o12), s13, s14, s15, s16, s17, s18, s19, s20] [])) _
  refine XS.iload X0.here hx rfl (hb hby at_58) rfl ?_
  show Steps p.tables e below (T0.setTop (mkF m 60 #[s0, s1, s2, s3, s4, .val (.long j5), .second, s7, s8, s9, .val (.int i10), s11, .val (.ref o12), s13, s14, s15, s16, s17, s18, s19, s20] [(.int i10)])) _
  refine XS.iconst X0.here hx rfl (hb hby at_60) ?_
  show Steps p.tables e below (T0.setTop (mkF m 61 #[s0, s1, s2, s3, s4, .val (.long j5), .second, s7, s8, s9, .val (.int i10), s11, .val (.ref o12), s13, s14, s15, s16, s17, s18, s19, s20] [(.int (1 : Int32)), (.int i10)])) _
  refine XS.icmpNo X0.here hx rfl (hb hby at_61) rfl (flt hc61).1 ?_
  show Steps p.tables e below (T0.setTop (mkF m 64 #[s0, s1, s2, s3, s4, .val (.long j5), .second, s7, s8, s9, .val (.int i10), s11, .val (.ref o12), s13, s14, s15, s16, s17, s18, s19, s20] [])) _
  refine XS.aload X0.here hx rfl (hb hby at_64) rfl rfl ?_
  show Steps p.tables e below (T0.setTop (mkF m 66 #[s0, s1, s2, s3, s4, .val (.long j5), .second, s7, s8, s9, .val (.int i10), s11, .val (.ref o12), s13, s14, s15, s16, s17, s18, s19, s20] [(.ref o12)])) _
  refine XS.lload X0.here hx rfl (hb hby at_66) rfl ?_
  show Steps p.tables e below (T0.setTop (mkF m 68 #[s0, s1, s2, s3, s4, .val (.long j5), .second, s7, s8, s9, .val (.int i10), s11, .val (.ref o12), s13, s14, s15, s16, s17, s18, s19, s20] [(.long j5), (.ref o12)])) _
  refine st6.trans ?_
  exact kt
set_option maxRecDepth 65536 in
set_option maxHeartbeats 40000000 in
theorem own_sk58 {p : Program} {l : Launch} {e : Env} {R : Room} {s : State} {m : MethodId} {args : Array Value} {below : List Frame} {meth : Method} {c : Code} {T0 : State} {locs : List Loc} {cells slots : Nat} {Z : State} {a0 : Array Value} {h0 : Heap} (s0 : Slot) (s1 : Slot) (s2 : Slot) (s3 : Slot) (s4 : Slot) (s5 : Slot) (s6 : Slot) (s7 : Slot) (s8 : Slot) (s9 : Slot) (i10 : Int32) (s11 : Slot) (s12 : Slot) (s13 : Slot) (s14 : Slot) (s15 : Slot) (s16 : Slot) (s17 : Slot) (s18 : Slot) (s19 : Slot) (s20 : Slot)
    (X0 : Stand p l e R s m args below meth c T0 locs cells slots) (hx : p.tables.exec = Jvm.exec) (hZ : Z.Warmed39 s.vm) (hw : ∀ d ∈ tables_1, d.before a0 Z = true) (hby : c.code = code) (hml : c.maxLocals = 21) (hown : s.vm.findClass "com/example/syncline/syncline/client/bench/TallyCommittedPinLaw" = some m.cls) (e0 : T0.heap = h0) (hc61 : i10 < (1 : Int32)) :
    ∃ (T' : State), Stand p l e R s m args below meth c T' locs cells slots ∧ T'.heap = h0 ∧
      ∀ target, Steps p.tables e below (T'.setTop (mkF m 71 #[s0, s1, s2, s3, s4, s5, s6, s7, s8, s9, .val (.int i10), s11, s12, s13, s14, s15, s16, s17, s18, s19, s20] [])) target → Steps p.tables e below (T0.setTop (mkF m 58 #[s0, s1, s2, s3, s4, s5, s6, s7, s8, s9, .val (.int i10), s11, s12, s13, s14, s15, s16, s17, s18, s19, s20] [])) target := by

  refine ⟨T0, X0, e0, fun target kt => ?_⟩
  show Steps p.tables e below (T0.setTop (mkF m 58 #[s0, s1, s2, s3, s4, s5, s6, s7, s8, s9, .val (.int i10), s11, s12, s13, s14, s15, s16, s17, s18, s19, s20] [])) _
  refine XS.iload X0.here hx rfl (hb hby at_58) rfl ?_
  show Steps p.tables e below (T0.setTop (mkF m 60 #[s0, s1, s2, s3, s4, s5, s6, s7, s8, s9, .val (.int i10), s11, s12, s13, s14, s15, s16, s17, s18, s19, s20] [(.int i10)])) _
  refine XS.iconst X0.here hx rfl (hb hby at_60) ?_
  show Steps p.tables e below (T0.setTop (mkF m 61 #[s0, s1, s2, s3, s4, s5, s6, s7, s8, s9, .val (.int i10), s11, s12, s13, s14, s15, s16, s17, s18, s19, s20] [(.int (1 : Int32)), (.int i10)])) _
  refine XS.icmpYes X0.here hx rfl (pc0 := 61) (pc' := 71) rfl (hb hby at_61) rfl (tlt hc61).1 (by decide) (by decide) ?_
  exact kt
set_option maxRecDepth 65536 in
set_option maxHeartbeats 40000000 in
theorem own_ad71 {p : Program} {l : Launch} {e : Env} {s : State} {m : MethodId} {args : Array Value} {below : List Frame} {meth : Method} {c : Code} {T0 : State} {locs : List Loc} {Z : State} {a0 : Array Value} {h0 : Heap} {n0 : Nat} (s0 : Slot) (s1 : Slot) (s2 : Slot) (s3 : Slot) (s4 : Slot) (s5 : Slot) (s6 : Slot) (j7 : Int64) (s9 : Slot) (i10 : Int32) (s11 : Slot) (o12 : Addr) (s13 : Slot) (s14 : Slot) (s15 : Slot) (s16 : Slot) (s17 : Slot) (s18 : Slot) (s19 : Slot) (s20 : Slot) (z tA uA lA gA wA : Addr) (n : Nat) (uB lB gB wB : Addr) (mm : Nat)
    (X0 : Stand p l e room_1 s m args below meth c T0 locs 11 38) (hx : p.tables.exec = Jvm.exec) (hZ : Z.Warmed39 s.vm) (hw : ∀ d ∈ tables_1, d.before a0 Z = true) (hby : c.code = code) (hml : c.maxLocals = 21) (hown : s.vm.findClass "com/example/syncline/syncline/client/bench/TallyCommittedPinLaw" = some m.cls) (e0 : T0.heap = h0) (N0 : Fr n0 locs) (Z0 : n0 ≤ h0.size) (E_o12 : Exa Z h0 o12 "com/example/syncline/syncline/client/bench/KvWorkload$Tally") (hc74 : ¬ (i10 < (2 : Int32))) (S : own_S Z n0 h0 z tA uA lA gA wA n o12 uB lB gB wB mm) (hn : mm < 4) :
    ∃ (T' : State) (h' : Heap) (locs' : List Loc), Stand p l e room_1 s m args below meth c T' locs' 12 42 ∧ T'.heap = h' ∧ Fr n0 locs' ∧ n0 ≤ h'.size ∧ (∃ w', own_S Z n0 h' z tA uA lA gA wA n o12 uB lB gB w' (mm + 1)) ∧
      ∀ target, Steps p.tables e below (T'.setTop (mkF m 84 #[s0, s1, s2, s3, s4, s5, s6, .val (.long j7), .second, s9, .val (.int i10), s11, .val (.ref o12), s13, s14, s15, s16, s17, s18, s19, s20] [])) target → Steps p.tables e below (T0.setTop (mkF m 71 #[s0, s1, s2, s3, s4, s5, s6, .val (.long j7), .second, s9, .val (.int i10), s11, .val (.ref o12), s13, s14, s15, s16, s17, s18, s19, s20] [])) target := by
  obtain ⟨cq6, kq6, q6a, q6b, q6c⟩ := isOf hZ e0 E_o12
  obtain ⟨_, _, ⟨T6, L6, k6, n6⟩, -, X6, ⟨Lc6, hQ6, l6, y6, z6⟩, st6⟩ := X0.virtualBack hx (y := (⟨"com/example/syncline/syncline/client/bench/KvWorkload$Tally", "addCommittedUpdate", "(J)V"⟩ : MethodName)) (z := (⟨"com/example/syncline/syncline/client/bench/KvWorkload$Tally", "addCommittedUpdate", "(J)V"⟩ : MethodName)) hown (mvT hZ (hw _ (List.mem_of_getElem? (i := 57) rfl))) (mvT hZ (hw _ (List.mem_of_getElem? (i := 58) rfl))) (notFace_of_selects (args := #[]) (mvT hZ (hw _ (List.mem_of_getElem? (i := 60) rfl)))) (mvT hZ (hw _ (List.mem_of_getElem? (i := 60) rfl))) (mvT hZ (hw _ (List.mem_of_getElem? (i := 59) rfl))) (by decide) (backOf (W := 0) (rm8 l Z a0 hw [] o12 j7 uB wB mm h0 n0 Z0 S.2.1.2.2.1 S.2.2.2.1 hn) hZ (hw _ (List.mem_of_getElem? (i := 61) rfl)) (hw _ (List.mem_of_getElem? (i := 3) rfl)) (by decide) (by decide)) q6a q6c (g := (mkF m 81 #[s0, s1, s2, s3, s4, s5, s6, .val (.long j7), .second, s9, .val (.int i10), s11, .val (.ref o12), s13, s14, s15, s16, s17, s18, s19, s20] [(.long j7), (.ref o12)])) rfl (by rw [hml]; rfl) (Steps.refl _) (argsL := [(.long j7)]) (rest := []) (lenOf pd_0_5 rfl) rfl (by show 2 * 0 + _ ≤ _; exact Nat.le_of_eq rfl) (hb hby at_81) (fun _ _ => ⟨rfl, e0, (Nat.le_of_ble_eq_true rfl), (Nat.le_of_ble_eq_true rfl)⟩)
  dsimp only [Pt.U, Pt.locs, Pt.cells, Pt.slots] at X6 l6 y6 z6 st6 hQ6
  subst l6 y6 z6
  obtain ⟨rfl, N6q, w1, Q1_⟩ := hQ6
  have N6 := Fr.app N0 N6q
  refine ⟨T6, _, _, X6, rfl, N6, (Nat.le_trans Z0 Q1_.2.1.size), ⟨w1, S.addB (hw _ (List.mem_of_getElem? (i := 11) rfl)) (hw _ (List.mem_of_getElem? (i := 2) rfl)) Q1_⟩, fun target kt => ?_⟩
  show Steps p.tables e below (T0.setTop (mkF m 71 #[s0, s1, s2, s3, s4, s5, s6, .val (.long j7), .second, s9, .val (.int i10), s11, .val (.ref o12), s13, s14, s15, s16, s17, s18, s19, s20] [])) _
  refine XS.iload X0.here hx rfl (hb hby at_71) rfl ?_
  show Steps p.tables e below (T0.setTop (mkF m 73 #[s0, s1, s2, s3, s4, s5, s6, .val (.long j7), .second, s9, .val (.int i10), s11, .val (.ref o12), s13, s14, s15, s16, s17, s18, s19, s20] [(.int i10)])) _
  refine XS.iconst X0.here hx rfl (hb hby at_73) ?_
  show Steps p.tables e below (T0.setTop (mkF m 74 #[s0, s1, s2, s3, s4, s5, s6, .val (.long j7), .second, s9, .val (.int i10), s11, .val (.ref o12), s13, s14, s15, s16, s17, s18, s19, s20] [(.int (2 : Int32)), (.int i10)])) _
  refine XS.icmpNo X0.here hx rfl (hb hby at_74) rfl (flt hc74).1 ?_
  show Steps p.tables e below (T0.setTop (mkF m 77 #[s0, s1, s2, s3, s4, s5, s6, .val (.long j7), .second, s9, .val (.int i10), s11, .val (.ref o12), s13, s14, s15, s16, s17, s18, s19, s20] [])) _
  refine XS.aload X0.here hx rfl (hb hby at_77) rfl rfl ?_
  show Steps p.tables e below (T0.setTop (mkF m 79 #[s0, s1, s2, s3, s4, s5, s6, .val (.long j7), .second, s9, .val (.int i10), s11, .val (.ref o12), s13, s14, s15, s16, s17, s18, s19, s20] [(.ref o12)])) _
  refine XS.lload X0.here hx rfl (hb hby at_79) rfl ?_
  show Steps p.tables e below (T0.setTop (mkF m 81 #[s0, s1, s2, s3, s4, s5, s6, .val (.long j7), .second, s9, .val (.int i10), s11, .val (.ref o12), s13, s14, s15, s16, s17, s18, s19, s20] [(.long j7), (.ref o12)])) _
  refine st6.trans ?_
  exact kt
set_option maxRecDepth 65536 in
set_option maxHeartbeats 40000000 in
theorem own_sk71 {p : Program} {l : Launch} {e : Env} {R : Room} {s : State} {m : MethodId} {args : Array Value} {below : List Frame} {meth : Method} {c : Code} {T0 : State} {locs : List Loc} {cells slots : Nat} {Z : State} {a0 : Array Value} {h0 : Heap} (s0 : Slot) (s1 : Slot) (s2 : Slot) (s3 : Slot) (s4 : Slot) (s5 : Slot) (s6 : Slot) (s7 : Slot) (s8 : Slot) (s9 : Slot) (i10 : Int32) (s11 : Slot) (s12 : Slot) (s13 : Slot) (s14 : Slot) (s15 : Slot) (s16 : Slot) (s17 : Slot) (s18 : Slot) (s19 : Slot) (s20 : Slot)
    (X0 : Stand p l e R s m args below meth c T0 locs cells slots) (hx : p.tables.exec = Jvm.exec) (hZ : Z.Warmed39 s.vm) (hw : ∀ d ∈ tables_1, d.before a0 Z = true) (hby : c.code = code) (hml : c.maxLocals = 21) (hown : s.vm.findClass "com/example/syncline/syncline/client/bench/TallyCommittedPinLaw" = some m.cls) (e0 : T0.heap = h0) (hc74 : i10 < (2 : Int32)) :
    ∃ (T' : State), Stand p l e R s m args below meth c T' locs cells slots ∧ T'.heap = h0 ∧
      ∀ target, Steps p.tables e below (T'.setTop (mkF m 84 #[s0, s1, s2, s3, s4, s5, s6, s7, s8, s9, .val (.int i10), s11, s12, s13, s14, s15, s16, s17, s18, s19, s20] [])) target → Steps p.tables e below (T0.setTop (mkF m 71 #[s0, s1, s2, s3, s4, s5, s6, s7, s8, s9, .val (.int i10), s11, s12, s13, s14, s15, s16, s17, s18, s19, s20] [])) target := by

  refine ⟨T0, X0, e0, fun target kt => ?_⟩
  show Steps p.tables e below (T0.setTop (mkF m 71 #[s0, s1, s2, s3, s4, s5, s6, s7, s8, s9, .val (.int i10), s11, s12, s13, s14, s15, s16, s17, s18, s19, s20] [])) _
  refine XS.iload X0.here hx rfl (hb hby at_71) rfl ?_
  show Steps p.tables e below (T0.setTop (mkF m 73 #[s0, s1, s2, s3, s4, s5, s6, s7, s8, s9, .val (.int i10), s11, s12, s13, s14, s15, s16, s17, s18, s19, s20] [(.int i10)])) _
  refine XS.iconst X0.here hx rfl (hb hby at_73) ?_
  show Steps p.tables e below (T0.setTop (mkF m 74 #[s0, s1, s2, s3, s4, s5, s6, s7, s8, s9, .val (.int i10), s11, s12, s13, s14, s15, s16, s17, s18, s19, s20] [(.int (2 : Int32)), (.int i10)])) _
  refine XS.icmpYes X0.here hx rfl (pc0 := 74) (pc' := 84) rfl (hb hby at_74) rfl (tlt hc74).1 (by decide) (by decide) ?_
  exact kt
theorem pd_0_1 : parseMethodDescriptor "()J" = some ⟨[], some .long⟩ := by decide +kernel
set_option maxRecDepth 65536 in
set_option maxHeartbeats 40000000 in
theorem tn0_84_98 {p : Program} {l : Launch} {e : Env} {s : State} {m : MethodId} {args : Array Value} {below : List Frame} {meth : Method} {c : Code} {T0 : State} {locs : List Loc} {Z : State} {a0 : Array Value} {h0 : Heap} {n0 : Nat} (s0 : Slot) (s1 : Slot) (s2 : Slot) (s3 : Slot) (s4 : Slot) (s5 : Slot) (s6 : Slot) (s7 : Slot) (s8 : Slot) (s9 : Slot) (s10 : Slot) (o11 : Addr) (o12 : Addr) (uA wA : Addr) (n : Nat) (uB wB : Addr) (mm : Nat)
    (X0 : Stand p l e room_1 s m args below meth c T0 locs 12 42) (hx : p.tables.exec = Jvm.exec) (hZ : Z.Warmed39 s.vm) (hw : ∀ d ∈ tables_1, d.before a0 Z = true) (hby : c.code = code) (hml : c.maxLocals = 21) (hown : s.vm.findClass "com/example/syncline/syncline/client/bench/TallyCommittedPinLaw" = some m.cls) (e0 : T0.heap = h0) (N0 : Fr n0 locs) (Z0 : n0 ≤ h0.size) (E_o11 : Exa Z h0 o11 "com/example/syncline/syncline/client/bench/KvWorkload$Tally") (E_o12 : Exa Z h0 o12 "com/example/syncline/syncline/client/bench/KvWorkload$Tally") (FA : Fld Z h0 o11 "com/example/syncline/syncline/client/bench/KvWorkload$Tally" "updateCommits" "Lcom/example/syncline/syncline/client/bench/Latencies;" (.ref uA)) (GA : Fld Z h0 o11 "com/example/syncline/syncline/client/bench/KvWorkload$Tally" "readOnlyCommitted" "J" (.long 0)) (XA : own_LT Z n0 h0 uA wA n) (FB : Fld Z h0 o12 "com/example/syncline/syncline/client/bench/KvWorkload$Tally" "updateCommits" "Lcom/example/syncline/syncline/client/bench/Latencies;" (.ref uB)) (GB : Fld Z h0 o12 "com/example/syncline/syncline/client/bench/KvWorkload$Tally" "readOnlyCommitted" "J" (.long 0)) (XB : own_LT Z n0 h0 uB wB mm) :
    ∃ (T' : State) (h' : Heap) (locs' : List Loc), Stand p l e room_1 s m args below meth c T' locs' 12 42 ∧ T'.heap = h' ∧ Fr n0 locs' ∧ n0 ≤ h'.size ∧ (h' = h0) ∧
      ∀ target, Steps p.tables e below (T'.setTop (mkF m 98 #[s0, s1, s2, s3, s4, s5, s6, s7, s8, s9, s10, .val (.ref o11), .val (.ref o12), .val (.long ((Int32.ofNat n).toInt64 + 0)), .second, .val (.long ((Int32.ofNat mm).toInt64 + 0)), .second, .unset, .unset, .unset, .unset] [])) target → Steps p.tables e below (T0.setTop (mkF m 84 #[s0, s1, s2, s3, s4, s5, s6, s7, s8, s9, s10, .val (.ref o11), .val (.ref o12), .unset, .unset, .unset, .unset, .unset, .unset, .unset, .unset] [])) target := by
  obtain ⟨cq6, kq6, q6a, q6b, q6c⟩ := isOf hZ e0 E_o11
  obtain ⟨_, _, ⟨T6, L6, k6, n6⟩, -, X6, ⟨Lc6, hQ6, l6, y6, z6⟩, st6⟩ := X0.virtualBack hx (y := (⟨"com/example/syncline/syncline/client/bench/KvWorkload$Tally", "committed", "()J"⟩ : MethodName)) (z := (⟨"com/example/syncline/syncline/client/bench/KvWorkload$Tally", "committed", "()J"⟩ : MethodName)) hown (mvT hZ (hw _ (List.mem_of_getElem? (i := 27) rfl))) (mvT hZ (hw _ (List.mem_of_getElem? (i := 28) rfl))) (notFace_of_selects (args := #[]) (mvT hZ (hw _ (List.mem_of_getElem? (i := 30) rfl)))) (mvT hZ (hw _ (List.mem_of_getElem? (i := 30) rfl))) (mvT hZ (hw _ (List.mem_of_getElem? (i := 29) rfl))) (by decide) (backOf (W := 0) (rm4 l Z a0 hw [] o11 uA 0 (Int32.ofNat n) h0 n0 Z0 FA XA.1 GA XA.2.1) hZ (hw _ (List.mem_of_getElem? (i := 31) rfl)) (hw _ (List.mem_of_getElem? (i := 3) rfl)) (by decide) (by decide)) q6a q6c (g := (mkF m 86 #[s0, s1, s2, s3, s4, s5, s6, s7, s8, s9, s10, .val (.ref o11), .val (.ref o12), .unset, .unset, .unset, .unset, .unset, .unset, .unset, .unset] [(.ref o11)])) rfl (by rw [hml]; rfl) (Steps.refl _) (argsL := []) (rest := []) (lenOf pd_0_1 rfl) rfl (by show 2 * 0 + _ ≤ _; exact Nat.le_of_eq rfl) (hb hby at_86) (fun _ _ => ⟨rfl, e0, (Nat.le_of_ble_eq_true rfl), (Nat.le_of_ble_eq_true rfl)⟩)
  dsimp only [Pt.U, Pt.locs, Pt.cells, Pt.slots] at X6 l6 y6 z6 st6 hQ6
  subst l6 y6 z6
  obtain ⟨rfl, N6q, q6⟩ := hQ6
  have K6 : Keep h0 T6.heap [] := by rw [q6]; exact Keep.refl _ _
  have N6 := Fr.app N0 N6q
  obtain ⟨cq7, kq7, q7a, q7b, q7c⟩ := isOf hZ rfl (E_o12.keep K6)
  obtain ⟨_, _, ⟨T7, L7, k7, n7⟩, -, X7, ⟨Lc7, hQ7, l7, y7, z7⟩, st7⟩ := X6.virtualBack hx (y := (⟨"com/example/syncline/syncline/client/bench/KvWorkload$Tally", "committed", "()J"⟩ : MethodName)) (z := (⟨"com/example/syncline/syncline/client/bench/KvWorkload$Tally", "committed", "()J"⟩ : MethodName)) hown (mvT hZ (hw _ (List.mem_of_getElem? (i := 27) rfl))) (mvT hZ (hw _ (List.mem_of_getElem? (i := 28) rfl))) (notFace_of_selects (args := #[]) (mvT hZ (hw _ (List.mem_of_getElem? (i := 30) rfl)))) (mvT hZ (hw _ (List.mem_of_getElem? (i := 30) rfl))) (mvT hZ (hw _ (List.mem_of_getElem? (i := 29) rfl))) (by decide) (backOf (W := 0) (rm4 l Z a0 hw [] o12 uB 0 (Int32.ofNat mm) T6.heap n0 (Nat.le_trans Z0 K6.1) (FB.keep K6 nin0) (XB.1.keep K6) (GB.keep K6 nin0) (XB.2.1.keep K6 nin0)) hZ (hw _ (List.mem_of_getElem? (i := 31) rfl)) (hw _ (List.mem_of_getElem? (i := 3) rfl)) (by decide) (by decide)) q7a q7c (g := (mkF m 93 #[s0, s1, s2, s3, s4, s5, s6, s7, s8, s9, s10, .val (.ref o11), .val (.ref o12), .val (.long ((Int32.ofNat n).toInt64 + 0)), .second, .unset, .unset, .unset, .unset, .unset, .unset] [(.ref o12)])) rfl (by rw [hml]; rfl) (Steps.refl _) (argsL := []) (rest := []) (lenOf pd_0_1 rfl) rfl (by show 2 * 0 + _ ≤ _; exact Nat.le_of_eq rfl) (hb hby at_93) (fun _ _ => ⟨rfl, rfl, (Nat.le_of_ble_eq_true rfl), (Nat.le_of_ble_eq_true rfl)⟩)
  dsimp only [Pt.U, Pt.locs, Pt.cells, Pt.slots] at X7 l7 y7 z7 st7 hQ7
  subst l7 y7 z7
  obtain ⟨rfl, N7q, q7⟩ := hQ7
  have N7 := Fr.app N6 N7q
  refine ⟨T7, _, _, X7, rfl, N7, (by rw [q7, q6]; exact Z0), q7.trans q6, fun target kt => ?_⟩
  show Steps p.tables e below (T0.setTop (mkF m 84 #[s0, s1, s2, s3, s4, s5, s6, s7, s8, s9, s10, .val (.ref o11), .val (.ref o12), .unset, .unset, .unset, .unset, .unset, .unset, .unset, .unset] [])) _
  refine XS.aload X0.here hx rfl (hb hby at_84) rfl rfl ?_
  show Steps p.tables e below (T0.setTop (mkF m 86 #[s0, s1, s2, s3, s4, s5, s6, s7, s8, s9, s10, .val (.ref o11), .val (.ref o12), .unset, .unset, .unset, .unset, .unset, .unset, .unset, .unset] [(.ref o11)])) _
  refine st6.trans ?_
  show Steps p.tables e below (T6.setTop (mkF m 89 #[s0, s1, s2, s3, s4, s5, s6, s7, s8, s9, s10, .val (.ref o11), .val (.ref o12), .unset, .unset, .unset, .unset, .unset, .unset, .unset, .unset] [(.long ((Int32.ofNat n).toInt64 + 0))])) _
  refine XS.lstore X6.here hx rfl (hb hby at_89) rfl (l' := #[s0, s1, s2, s3, s4, s5, s6, s7, s8, s9, s10, .val (.ref o11), .val (.ref o12), .val (.long ((Int32.ofNat n).toInt64 + 0)), .second, .unset, .unset, .unset, .unset, .unset, .unset]) rfl ?_
  show Steps p.tables e below (T6.setTop (mkF m 91 #[s0, s1, s2, s3, s4, s5, s6, s7, s8, s9, s10, .val (.ref o11), .val (.ref o12), .val (.long ((Int32.ofNat n).toInt64 + 0)), .second, .unset, .unset, .unset, .unset, .unset, .unset] [])) _
  refine XS.aload X6.here hx rfl (hb hby at_91) rfl rfl ?_
  show Steps p.tables e below (T6.setTop (mkF m 93 #[s0, s1, s2, s3, s4, s5, s6, s7, s8, s9, s10, .val (.ref o11), .val (.ref o12), .val (.long ((Int32.ofNat n).toInt64 + 0)), .second, .unset, .unset, .unset, .unset, .unset, .unset] [(.ref o12)])) _
  refine st7.trans ?_
  show Steps p.tables e below (T7.setTop (mkF m 96 #[s0, s1, s2, s3, s4, s5, s6, s7, s8, s9, s10, .val (.ref o11), .val (.ref o12), .val (.long ((Int32.ofNat n).toInt64 + 0)), .second, .unset, .unset, .unset, .unset, .unset, .unset] [(.long ((Int32.ofNat mm).toInt64 + 0))])) _
  refine XS.lstore X7.here hx rfl (hb hby at_96) rfl (l' := #[s0, s1, s2, s3, s4, s5, s6, s7, s8, s9, s10, .val (.ref o11), .val (.ref o12), .val (.long ((Int32.ofNat n).toInt64 + 0)), .second, .val (.long ((Int32.ofNat mm).toInt64 + 0)), .second, .unset, .unset, .unset, .unset]) rfl ?_
  exact kt
theorem pd_0_3 : parseMethodDescriptor "(Lcom/example/syncline/syncline/client/bench/KvWorkload$Tally;)V" = some ⟨[(.object "com/example/syncline/syncline/client/bench/KvWorkload$Tally")], none⟩ := by decide +kernel
set_option maxRecDepth 65536 in
set_option maxHeartbeats 40000000 in
theorem tn0_98_105 {p : Program} {l : Launch} {e : Env} {s : State} {m : MethodId} {args : Array Value} {below : List Frame} {meth : Method} {c : Code} {T0 : State} {locs : List Loc} {Z : State} {a0 : Array Value} {h0 : Heap} {n0 : Nat} (s0 : Slot) (s1 : Slot) (s2 : Slot) (s3 : Slot) (s4 : Slot) (s5 : Slot) (s6 : Slot) (s7 : Slot) (s8 : Slot) (s9 : Slot) (s10 : Slot) (o11 : Addr) (o12 : Addr) (s13 : Slot) (s14 : Slot) (s15 : Slot) (s16 : Slot) (z uA lA gA wA : Addr) (n : Nat) (uB lB gB wB : Addr) (mm : Nat)
    (X0 : Stand p l e room_1 s m args below meth c T0 locs 12 42) (hx : p.tables.exec = Jvm.exec) (hZ : Z.Warmed39 s.vm) (hw : ∀ d ∈ tables_1, d.before a0 Z = true) (hby : c.code = code) (hml : c.maxLocals = 21) (hown : s.vm.findClass "com/example/syncline/syncline/client/bench/TallyCommittedPinLaw" = some m.cls) (e0 : T0.heap = h0) (N0 : Fr n0 locs) (Z0 : n0 ≤ h0.size) (E_o11 : Exa Z h0 o11 "com/example/syncline/syncline/client/bench/KvWorkload$Tally") (S : own_S Z n0 h0 z o11 uA lA gA wA n o12 uB lB gB wB mm) (hm2 : mm ≤ 2) (hnm : n + mm ≤ 4) :
    ∃ (T' : State) (h' : Heap) (locs' : List Loc), Stand p l e room_1 s m args below meth c T' locs' 18 66 ∧ T'.heap = h' ∧ Fr n0 locs' ∧ n0 ≤ h'.size ∧ (Exa Z h' o11 "com/example/syncline/syncline/client/bench/KvWorkload$Tally" ∧ Exa Z h' o12 "com/example/syncline/syncline/client/bench/KvWorkload$Tally" ∧ (∃ w', own_LT Z n0 h' uA w' (n + mm)) ∧ own_LT Z n0 h' uB wB mm ∧ Fld Z h' o11 "com/example/syncline/syncline/client/bench/KvWorkload$Tally" "updateCommits" "Lcom/example/syncline/syncline/client/bench/Latencies;" (.ref uA) ∧ Fld Z h' o11 "com/example/syncline/syncline/client/bench/KvWorkload$Tally" "readOnlyCommitted" "J" (.long 0) ∧ Fld Z h' o12 "com/example/syncline/syncline/client/bench/KvWorkload$Tally" "updateCommits" "Lcom/example/syncline/syncline/client/bench/Latencies;" (.ref uB) ∧ Fld Z h' o12 "com/example/syncline/syncline/client/bench/KvWorkload$Tally" "readOnlyCommitted" "J" (.long 0)) ∧
      ∀ target, Steps p.tables e below (T'.setTop (mkF m 105 #[s0, s1, s2, s3, s4, s5, s6, s7, s8, s9, s10, .val (.ref o11), .val (.ref o12), s13, s14, s15, s16, .unset, .unset, .unset, .unset] [])) target → Steps p.tables e below (T0.setTop (mkF m 98 #[s0, s1, s2, s3, s4, s5, s6, s7, s8, s9, s10, .val (.ref o11), .val (.ref o12), s13, s14, s15, s16, .unset, .unset, .unset, .unset] [])) target := by
  obtain ⟨cq6, kq6, q6a, q6b, q6c⟩ := isOf hZ e0 E_o11
  obtain ⟨_, _, ⟨T6, L6, k6, n6⟩, -, X6, ⟨Lc6, hQ6, l6, y6, z6⟩, st6⟩ := X0.virtualBack hx (y := (⟨"com/example/syncline/syncline/client/bench/KvWorkload$Tally", "add", "(Lcom/example/syncline/syncline/client/bench/KvWorkload$Tally;)V"⟩ : MethodName)) (z := (⟨"com/example/syncline/syncline/client/bench/KvWorkload$Tally", "add", "(Lcom/example/syncline/syncline/client/bench/KvWorkload$Tally;)V"⟩ : MethodName)) hown (mvT hZ (hw _ (List.mem_of_getElem? (i := 41) rfl))) (mvT hZ (hw _ (List.mem_of_getElem? (i := 42) rfl))) (notFace_of_selects (args := #[]) (mvT hZ (hw _ (List.mem_of_getElem? (i := 44) rfl)))) (mvT hZ (hw _ (List.mem_of_getElem? (i := 44) rfl))) (mvT hZ (hw _ (List.mem_of_getElem? (i := 43) rfl))) (by decide) (backOf (W := 0) (rm6 l Z a0 hw [] o11 o12 z uA lA gA wA n uB lB gB wB mm h0 n0 Z0 S hm2 hnm) hZ (hw _ (List.mem_of_getElem? (i := 45) rfl)) (hw _ (List.mem_of_getElem? (i := 3) rfl)) (by decide) (by decide)) q6a q6c (g := (mkF m 102 #[s0, s1, s2, s3, s4, s5, s6, s7, s8, s9, s10, .val (.ref o11), .val (.ref o12), s13, s14, s15, s16, .unset, .unset, .unset, .unset] [(.ref o12), (.ref o11)])) rfl (by rw [hml]; rfl) (Steps.refl _) (argsL := [(.ref o12)]) (rest := []) (lenOf pd_0_3 rfl) rfl (by show 2 * 0 + _ ≤ _; exact Nat.le_of_eq rfl) (hb hby at_102) (fun _ _ => ⟨rfl, e0, (Nat.le_of_ble_eq_true rfl), (Nat.le_of_ble_eq_true rfl)⟩)
  dsimp only [Pt.U, Pt.locs, Pt.cells, Pt.slots] at X6 l6 y6 z6 st6 hQ6
  subst l6 y6 z6
  obtain ⟨rfl, N6q, Z6, q6⟩ := hQ6
  have N6 := Fr.app N0 N6q
  refine ⟨T6, _, _, X6, rfl, N6, Z6, q6, fun target kt => ?_⟩
  show Steps p.tables e below (T0.setTop (mkF m 98 #[s0, s1, s2, s3, s4, s5, s6, s7, s8, s9, s10, .val (.ref o11), .val (.ref o12), s13, s14, s15, s16, .unset, .unset, .unset, .unset] [])) _
  refine XS.aload X0.here hx rfl (hb hby at_98) rfl rfl ?_
  show Steps p.tables e below (T0.setTop (mkF m 100 #[s0, s1, s2, s3, s4, s5, s6, s7, s8, s9, s10, .val (.ref o11), .val (.ref o12), s13, s14, s15, s16, .unset, .unset, .unset, .unset] [(.ref o11)])) _
  refine XS.aload X0.here hx rfl (hb hby at_100) rfl rfl ?_
  show Steps p.tables e below (T0.setTop (mkF m 102 #[s0, s1, s2, s3, s4, s5, s6, s7, s8, s9, s10, .val (.ref o11), .val (.ref o12), s13, s14, s15, s16, .unset, .unset, .unset, .unset] [(.ref o12), (.ref o11)])) _
  refine st6.trans ?_
  exact kt
set_option maxRecDepth 65536 in
set_option maxHeartbeats 40000000 in
theorem tn0_105_119 {p : Program} {l : Launch} {e : Env} {s : State} {m : MethodId} {args : Array Value} {below : List Frame} {meth : Method} {c : Code} {T0 : State} {locs : List Loc} {Z : State} {a0 : Array Value} {h0 : Heap} {n0 : Nat} (s0 : Slot) (s1 : Slot) (s2 : Slot) (s3 : Slot) (s4 : Slot) (s5 : Slot) (s6 : Slot) (s7 : Slot) (s8 : Slot) (s9 : Slot) (s10 : Slot) (o11 : Addr) (o12 : Addr) (s13 : Slot) (s14 : Slot) (s15 : Slot) (s16 : Slot) (uA wA : Addr) (n : Nat) (uB wB : Addr) (mm : Nat)
    (X0 : Stand p l e room_1 s m args below meth c T0 locs 18 66) (hx : p.tables.exec = Jvm.exec) (hZ : Z.Warmed39 s.vm) (hw : ∀ d ∈ tables_1, d.before a0 Z = true) (hby : c.code = code) (hml : c.maxLocals = 21) (hown : s.vm.findClass "com/example/syncline/syncline/client/bench/TallyCommittedPinLaw" = some m.cls) (e0 : T0.heap = h0) (N0 : Fr n0 locs) (Z0 : n0 ≤ h0.size) (E_o11 : Exa Z h0 o11 "com/example/syncline/syncline/client/bench/KvWorkload$Tally") (E_o12 : Exa Z h0 o12 "com/example/syncline/syncline/client/bench/KvWorkload$Tally") (FA : Fld Z h0 o11 "com/example/syncline/syncline/client/bench/KvWorkload$Tally" "updateCommits" "Lcom/example/syncline/syncline/client/bench/Latencies;" (.ref uA)) (GA : Fld Z h0 o11 "com/example/syncline/syncline/client/bench/KvWorkload$Tally" "readOnlyCommitted" "J" (.long 0)) (XA : own_LT Z n0 h0 uA wA n) (FB : Fld Z h0 o12 "com/example/syncline/syncline/client/bench/KvWorkload$Tally" "updateCommits" "Lcom/example/syncline/syncline/client/bench/Latencies;" (.ref uB)) (GB : Fld Z h0 o12 "com/example/syncline/syncline/client/bench/KvWorkload$Tally" "readOnlyCommitted" "J" (.long 0)) (XB : own_LT Z n0 h0 uB wB mm) :
    ∃ (T' : State) (h' : Heap) (locs' : List Loc), Stand p l e room_1 s m args below meth c T' locs' 18 66 ∧ T'.heap = h' ∧ Fr n0 locs' ∧ n0 ≤ h'.size ∧ (h' = h0) ∧
      ∀ target, Steps p.tables e below (T'.setTop (mkF m 119 #[s0, s1, s2, s3, s4, s5, s6, s7, s8, s9, s10, .val (.ref o11), .val (.ref o12), s13, s14, s15, s16, .val (.long ((Int32.ofNat n).toInt64 + 0)), .second, .val (.long ((Int32.ofNat mm).toInt64 + 0)), .second] [])) target → Steps p.tables e below (T0.setTop (mkF m 105 #[s0, s1, s2, s3, s4, s5, s6, s7, s8, s9, s10, .val (.ref o11), .val (.ref o12), s13, s14, s15, s16, .unset, .unset, .unset, .unset] [])) target := by
  obtain ⟨cq6, kq6, q6a, q6b, q6c⟩ := isOf hZ e0 E_o11
  obtain ⟨_, _, ⟨T6, L6, k6, n6⟩, -, X6, ⟨Lc6, hQ6, l6, y6, z6⟩, st6⟩ := X0.virtualBack hx (y := (⟨"com/example/syncline/syncline/client/bench/KvWorkload$Tally", "committed", "()J"⟩ : MethodName)) (z := (⟨"com/example/syncline/syncline/client/bench/KvWorkload$Tally", "committed", "()J"⟩ : MethodName)) hown (mvT hZ (hw _ (List.mem_of_getElem? (i := 27) rfl))) (mvT hZ (hw _ (List.mem_of_getElem? (i := 28) rfl))) (notFace_of_selects (args := #[]) (mvT hZ (hw _ (List.mem_of_getElem? (i := 30) rfl)))) (mvT hZ (hw _ (List.mem_of_getElem? (i := 30) rfl))) (mvT hZ (hw _ (List.mem_of_getElem? (i := 29) rfl))) (by decide) (backOf (W := 0) (rm4 l Z a0 hw [] o11 uA 0 (Int32.ofNat n) h0 n0 Z0 FA XA.1 GA XA.2.1) hZ (hw _ (List.mem_of_getElem? (i := 31) rfl)) (hw _ (List.mem_of_getElem? (i := 3) rfl)) (by decide) (by decide)) q6a q6c (g := (mkF m 107 #[s0, s1, s2, s3, s4, s5, s6, s7, s8, s9, s10, .val (.ref o11), .val (.ref o12), s13, s14, s15, s16, .unset, .unset, .unset, .unset] [(.ref o11)])) rfl (by rw [hml]; rfl) (Steps.refl _) (argsL := []) (rest := []) (lenOf pd_0_1 rfl) rfl (by show 2 * 0 + _ ≤ _; exact Nat.le_of_eq rfl) (hb hby at_107) (fun _ _ => ⟨rfl, e0, (Nat.le_of_ble_eq_true rfl), (Nat.le_of_ble_eq_true rfl)⟩)
  dsimp only [Pt.U, Pt.locs, Pt.cells, Pt.slots] at X6 l6 y6 z6 st6 hQ6
  subst l6 y6 z6
  obtain ⟨rfl, N6q, q6⟩ := hQ6
  have K6 : Keep h0 T6.heap [] := by rw [q6]; exact Keep.refl _ _
  have N6 := Fr.app N0 N6q
  obtain ⟨cq7, kq7, q7a, q7b, q7c⟩ := isOf hZ rfl (E_o12.keep K6)
  obtain ⟨_, _, ⟨T7, L7, k7, n7⟩, -, X7, ⟨Lc7, hQ7, l7, y7, z7⟩, st7⟩ := X6.virtualBack hx (y := (⟨"com/example/syncline/syncline/client/bench/KvWorkload$Tally", "committed", "()J"⟩ : MethodName)) (z := (⟨"com/example/syncline/syncline/client/bench/KvWorkload$Tally", "committed", "()J"⟩ : MethodName)) hown (mvT hZ (hw _ (List.mem_of_getElem? (i := 27) rfl))) (mvT hZ (hw _ (List.mem_of_getElem? (i := 28) rfl))) (notFace_of_selects (args := #[]) (mvT hZ (hw _ (List.mem_of_getElem? (i := 30) rfl)))) (mvT hZ (hw _ (List.mem_of_getElem? (i := 30) rfl))) (mvT hZ (hw _ (List.mem_of_getElem? (i := 29) rfl))) (by decide) (backOf (W := 0) (rm4 l Z a0 hw [] o12 uB 0 (Int32.ofNat mm) T6.heap n0 (Nat.le_trans Z0 K6.1) (FB.keep K6 nin0) (XB.1.keep K6) (GB.keep K6 nin0) (XB.2.1.keep K6 nin0)) hZ (hw _ (List.mem_of_getElem? (i := 31) rfl)) (hw _ (List.mem_of_getElem? (i := 3) rfl)) (by decide) (by decide)) q7a q7c (g := (mkF m 114 #[s0, s1, s2, s3, s4, s5, s6, s7, s8, s9, s10, .val (.ref o11), .val (.ref o12), s13, s14, s15, s16, .val (.long ((Int32.ofNat n).toInt64 + 0)), .second, .unset, .unset] [(.ref o12)])) rfl (by rw [hml]; rfl) (Steps.refl _) (argsL := []) (rest := []) (lenOf pd_0_1 rfl) rfl (by show 2 * 0 + _ ≤ _; exact Nat.le_of_eq rfl) (hb hby at_114) (fun _ _ => ⟨rfl, rfl, (Nat.le_of_ble_eq_true rfl), (Nat.le_of_ble_eq_true rfl)⟩)
  dsimp only [Pt.U, Pt.locs, Pt.cells, Pt.slots] at X7 l7 y7 z7 st7 hQ7
  subst l7 y7 z7
  obtain ⟨rfl, N7q, q7⟩ := hQ7
  have N7 := Fr.app N6 N7q
  refine ⟨T7, _, _, X7, rfl, N7, (by rw [q7, q6]; exact Z0), q7.trans q6, fun target kt => ?_⟩
  show Steps p.tables e below (T0.setTop (mkF m 105 #[s0, s1, s2, s3, s4, s5, s6, s7, s8, s9, s10, .val (.ref o11), .val (.ref o12), s13, s14, s15, s16, .unset, .unset, .unset, .unset] [])) _
  refine XS.aload X0.here hx rfl (hb hby at_105) rfl rfl ?_
  show Steps p.tables e below (T0.setTop (mkF m 107 #[s0, s1, s2, s3, s4, s5, s6, s7, s8, s9, s10, .val (.ref o11), .val (.ref o12), s13, s14, s15, s16, .unset, .unset, .unset, .unset] [(.ref o11)])) _
  refine st6.trans ?_
  show Steps p.tables e below (T6.setTop (mkF m 110 #[s0, s1, s2, s3, s4, s5, s6, s7, s8, s9, s10, .val (.ref o11), .val (.ref o12), s13, s14, s15, s16, .unset, .unset, .unset, .unset] [(.long ((Int32.ofNat n).toInt64 + 0))])) _
  refine XS.lstore X6.here hx rfl (hb hby at_110) rfl (l' := #[s0, s1, s2, s3, s4, s5, s6, s7, s8, s9, s10, .val (.ref o11), .val (.ref o12), s13, s14, s15, s16, .val (.long ((Int32.ofNat n).toInt64 + 0)), .second, .unset, .unset]) rfl ?_
  show Steps p.tables e below (T6.setTop (mkF m 112 #[s0, s1, s2, s3, s4, s5, s6, s7, s8, s9, s10, .val (.ref o11), .val (.ref o12), s13, s14, s15, s16, .val (.long ((Int32.ofNat n).toInt64 + 0)), .second, .unset, .unset] [])) _
  refine XS.aload X6.here hx rfl (hb hby at_112) rfl rfl ?_
  show Steps p.tables e below (T6.setTop (mkF m 114 #[s0, s1, s2, s3, s4, s5, s6, s7, s8, s9, s10, .val (.ref o11), .val (.ref o12), s13, s14, s15, s16, .val (.long ((Int32.ofNat n).toInt64 + 0)), .second, .unset, .unset] [(.ref o12)])) _
  refine st7.trans ?_
  show Steps p.tables e below (T7.setTop (mkF m 117 #[s0, s1, s2, s3, s4, s5, s6, s7, s8, s9, s10, .val (.ref o11), .val (.ref o12), s13, s14, s15, s16, .val (.long ((Int32.ofNat n).toInt64 + 0)), .second, .unset, .unset] [(.long ((Int32.ofNat mm).toInt64 + 0))])) _
  refine XS.lstore X7.here hx rfl (hb hby at_117) rfl (l' := #[s0, s1, s2, s3, s4, s5, s6, s7, s8, s9, s10, .val (.ref o11), .val (.ref o12), s13, s14, s15, s16, .val (.long ((Int32.ofNat n).toInt64 + 0)), .second, .val (.long ((Int32.ofNat mm).toInt64 + 0)), .second]) rfl ?_
  exact kt
set_option maxRecDepth 65536 in
set_option maxHeartbeats 40000000 in
theorem tn0_119_164 {p : Program} {l : Launch} {e : Env} {R : Room} {s : State} {m : MethodId} {args : Array Value} {below : List Frame} {meth : Method} {c : Code} {T0 : State} {locs : List Loc} {cells slots : Nat} {Z : State} {a0 : Array Value} {h0 : Heap} (s0 : Slot) (s1 : Slot) (s2 : Slot) (s3 : Slot) (s4 : Slot) (s5 : Slot) (s6 : Slot) (s7 : Slot) (s8 : Slot) (i9 : Int32) (i10 : Int32) (s11 : Slot) (s12 : Slot) (j13 : Int64) (j15 : Int64) (j17 : Int64) (j19 : Int64)
    (X0 : Stand p l e R s m args below meth c T0 locs cells slots) (hx : p.tables.exec = Jvm.exec) (hZ : Z.Warmed39 s.vm) (hw : ∀ d ∈ tables_1, d.before a0 Z = true) (hby : c.code = code) (hml : c.maxLocals = 21) (hown : s.vm.findClass "com/example/syncline/syncline/client/bench/TallyCommittedPinLaw" = some m.cls) (e0 : T0.heap = h0) (hc125 : (lcmpW j13 (i9.toInt64)) = (0 : Int32)) (hc134 : (lcmpW j15 (i10.toInt64)) = (0 : Int32)) (hc147 : (lcmpW j17 ((i9.toInt64) + (i10.toInt64))) = (0 : Int32)) (hc156 : (lcmpW j19 (i10.toInt64)) = (0 : Int32)) :
    ∃ (T' : State), Stand p l e R s m args below meth c T' locs cells slots ∧ T'.heap = h0 ∧
      ∀ target, Steps p.tables e below (T'.setTop (mkF m 164 #[s0, s1, s2, s3, s4, s5, s6, s7, s8, .val (.int i9), .val (.int i10), s11, s12, .val (.long j13), .second, .val (.long j15), .second, .val (.long j17), .second, .val (.long j19), .second] [(.int (1 : Int32))])) target → Steps p.tables e below (T0.setTop (mkF m 119 #[s0, s1, s2, s3, s4, s5, s6, s7, s8, .val (.int i9), .val (.int i10), s11, s12, .val (.long j13), .second, .val (.long j15), .second, .val (.long j17), .second, .val (.long j19), .second] [])) target := by

  refine ⟨T0, X0, e0, fun target kt => ?_⟩
  show Steps p.tables e below (T0.setTop (mkF m 119 #[s0, s1, s2, s3, s4, s5, s6, s7, s8, .val (.int i9), .val (.int i10), s11, s12, .val (.long j13), .second, .val (.long j15), .second, .val (.long j17), .second, .val (.long j19), .second] [])) _
  refine XS.lload X0.here hx rfl (hb hby at_119) rfl ?_
  show Steps p.tables e below (T0.setTop (mkF m 121 #[s0, s1, s2, s3, s4, s5, s6, s7, s8, .val (.int i9), .val (.int i10), s11, s12, .val (.long j13), .second, .val (.long j15), .second, .val (.long j17), .second, .val (.long j19), .second] [(.long j13)])) _
  refine XS.iload X0.here hx rfl (hb hby at_121) rfl ?_
  show Steps p.tables e below (T0.setTop (mkF m 123 #[s0, s1, s2, s3, s4, s5, s6, s7, s8, .val (.int i9), .val (.int i10), s11, s12, .val (.long j13), .second, .val (.long j15), .second, .val (.long j17), .second, .val (.long j19), .second] [(.int i9), (.long j13)])) _
  refine XS.i2l X0.here hx rfl (hb hby at_123) rfl ?_
  show Steps p.tables e below (T0.setTop (mkF m 124 #[s0, s1, s2, s3, s4, s5, s6, s7, s8, .val (.int i9), .val (.int i10), s11, s12, .val (.long j13), .second, .val (.long j15), .second, .val (.long j17), .second, .val (.long j19), .second] [(.long (i9.toInt64)), (.long j13)])) _
  refine XS.lcmp X0.here hx rfl (hb hby at_124) rfl ?_
  show Steps p.tables e below (T0.setTop (mkF m 125 #[s0, s1, s2, s3, s4, s5, s6, s7, s8, .val (.int i9), .val (.int i10), s11, s12, .val (.long j13), .second, .val (.long j15), .second, .val (.long j17), .second, .val (.long j19), .second] [(.int (lcmpW j13 (i9.toInt64)))])) _
  refine XS.ifNo X0.here hx rfl (hb hby at_125) rfl ((if0 _ _).trans (teq hc125).2) ?_
  show Steps p.tables e below (T0.setTop (mkF m 128 #[s0, s1, s2, s3, s4, s5, s6, s7, s8, .val (.int i9), .val (.int i10), s11, s12, .val (.long j13), .second, .val (.long j15), .second, .val (.long j17), .second, .val (.long j19), .second] [])) _
  refine XS.lload X0.here hx rfl (hb hby at_128) rfl ?_
  show Steps p.tables e below (T0.setTop (mkF m 130 #[s0, s1, s2, s3, s4, s5, s6, s7, s8, .val (.int i9), .val (.int i10), s11, s12, .val (.long j13), .second, .val (.long j15), .second, .val (.long j17), .second, .val (.long j19), .second] [(.long j15)])) _
  refine XS.iload X0.here hx rfl (hb hby at_130) rfl ?_
  show Steps p.tables e below (T0.setTop (mkF m 132 #[s0, s1, s2, s3, s4, s5, s6, s7, s8, .val (.int i9), .val (.int i10), s11, s12, .val (.long j13), .second, .val (.long j15), .second, .val (.long j17), .second, .val (.long j19), .second] [(.int i10), (.long j15)])) _
  refine XS.i2l X0.here hx rfl (hb hby at_132) rfl ?_
  show Steps p.tables e below (T0.setTop (mkF m 133 #[s0, s1, s2, s3, s4, s5, s6, s7, s8, .val (.int i9), .val (.int i10), s11, s12, .val (.long j13), .second, .val (.long j15), .second, .val (.long j17), .second, .val (.long j19), .second] [(.long (i10.toInt64)), (.long j15)])) _
  refine XS.lcmp X0.here hx rfl (hb hby at_133) rfl ?_
  show Steps p.tables e below (T0.setTop (mkF m 134 #[s0, s1, s2, s3, s4, s5, s6, s7, s8, .val (.int i9), .val (.int i10), s11, s12, .val (.long j13), .second, .val (.long j15), .second, .val (.long j17), .second, .val (.long j19), .second] [(.int (lcmpW j15 (i10.toInt64)))])) _
  refine XS.ifNo X0.here hx rfl (hb hby at_134) rfl ((if0 _ _).trans (teq hc134).2) ?_
  show Steps p.tables e below (T0.setTop (mkF m 137 #[s0, s1, s2, s3, s4, s5, s6, s7, s8, .val (.int i9), .val (.int i10), s11, s12, .val (.long j13), .second, .val (.long j15), .second, .val (.long j17), .second, .val (.long j19), .second] [])) _
  refine XS.lload X0.here hx rfl (hb hby at_137) rfl ?_
  show Steps p.tables e below (T0.setTop (mkF m 139 #[s0, s1, s2, s3, s4, s5, s6, s7, s8, .val (.int i9), .val (.int i10), s11, s12, .val (.long j13), .second, .val (.long j15), .second, .val (.long j17), .second, .val (.long j19), .second] [(.long j17)])) _
  refine XS.iload X0.here hx rfl (hb hby at_139) rfl ?_
  show Steps p.tables e below (T0.setTop (mkF m 141 #[s0, s1, s2, s3, s4, s5, s6, s7, s8, .val (.int i9), .val (.int i10), s11, s12, .val (.long j13), .second, .val (.long j15), .second, .val (.long j17), .second, .val (.long j19), .second] [(.int i9), (.long j17)])) _
  refine XS.i2l X0.here hx rfl (hb hby at_141) rfl ?_
  show Steps p.tables e below (T0.setTop (mkF m 142 #[s0, s1, s2, s3, s4, s5, s6, s7, s8, .val (.int i9), .val (.int i10), s11, s12, .val (.long j13), .second, .val (.long j15), .second, .val (.long j17), .second, .val (.long j19), .second] [(.long (i9.toInt64)), (.long j17)])) _
  refine XS.iload X0.here hx rfl (hb hby at_142) rfl ?_
  show Steps p.tables e below (T0.setTop (mkF m 144 #[s0, s1, s2, s3, s4, s5, s6, s7, s8, .val (.int i9), .val (.int i10), s11, s12, .val (.long j13), .second, .val (.long j15), .second, .val (.long j17), .second, .val (.long j19), .second] [(.int i10), (.long (i9.toInt64)), (.long j17)])) _
  refine XS.i2l X0.here hx rfl (hb hby at_144) rfl ?_
  show Steps p.tables e below (T0.setTop (mkF m 145 #[s0, s1, s2, s3, s4, s5, s6, s7, s8, .val (.int i9), .val (.int i10), s11, s12, .val (.long j13), .second, .val (.long j15), .second, .val (.long j17), .second, .val (.long j19), .second] [(.long (i10.toInt64)), (.long (i9.toInt64)), (.long j17)])) _
  refine XS.ladd X0.here hx rfl (hb hby at_145) rfl ?_
  show Steps p.tables e below (T0.setTop (mkF m 146 #[s0, s1, s2, s3, s4, s5, s6, s7, s8, .val (.int i9), .val (.int i10), s11, s12, .val (.long j13), .second, .val (.long j15), .second, .val (.long j17), .second, .val (.long j19), .second] [(.long ((i9.toInt64) + (i10.toInt64))), (.long j17)])) _
  refine XS.lcmp X0.here hx rfl (hb hby at_146) rfl ?_
  show Steps p.tables e below (T0.setTop (mkF m 147 #[s0, s1, s2, s3, s4, s5, s6, s7, s8, .val (.int i9), .val (.int i10), s11, s12, .val (.long j13), .second, .val (.long j15), .second, .val (.long j17), .second, .val (.long j19), .second] [(.int (lcmpW j17 ((i9.toInt64) + (i10.toInt64))))])) _
  refine XS.ifNo X0.here hx rfl (hb hby at_147) rfl ((if0 _ _).trans (teq hc147).2) ?_
  show Steps p.tables e below (T0.setTop (mkF m 150 #[s0, s1, s2, s3, s4, s5, s6, s7, s8, .val (.int i9), .val (.int i10), s11, s12, .val (.long j13), .second, .val (.long j15), .second, .val (.long j17), .second, .val (.long j19), .second] [])) _
  refine XS.lload X0.here hx rfl (hb hby at_150) rfl ?_
  show Steps p.tables e below (T0.setTop (mkF m 152 #[s0, s1, s2, s3, s4, s5, s6, s7, s8, .val (.int i9), .val (.int i10), s11, s12, .val (.long j13), .second, .val (.long j15), .second, .val (.long j17), .second, .val (.long j19), .second] [(.long j19)])) _
  refine XS.iload X0.here hx rfl (hb hby at_152) rfl ?_
  show Steps p.tables e below (T0.setTop (mkF m 154 #[s0, s1, s2, s3, s4, s5, s6, s7, s8, .val (.int i9), .val (.int i10), s11, s12, .val (.long j13), .second, .val (.long j15), .second, .val (.long j17), .second, .val (.long j19), .second] [(.int i10), (.long j19)])) _
  refine XS.i2l X0.here hx rfl (hb hby at_154) rfl ?_
  show Steps p.tables e below (T0.setTop (mkF m 155 #[s0, s1, s2, s3, s4, s5, s6, s7, s8, .val (.int i9), .val (.int i10), s11, s12, .val (.long j13), .second, .val (.long j15), .second, .val (.long j17), .second, .val (.long j19), .second] [(.long (i10.toInt64)), (.long j19)])) _
  refine XS.lcmp X0.here hx rfl (hb hby at_155) rfl ?_
  show Steps p.tables e below (T0.setTop (mkF m 156 #[s0, s1, s2, s3, s4, s5, s6, s7, s8, .val (.int i9), .val (.int i10), s11, s12, .val (.long j13), .second, .val (.long j15), .second, .val (.long j17), .second, .val (.long j19), .second] [(.int (lcmpW j19 (i10.toInt64)))])) _
  refine XS.ifNo X0.here hx rfl (hb hby at_156) rfl ((if0 _ _).trans (teq hc156).2) ?_
  show Steps p.tables e below (T0.setTop (mkF m 159 #[s0, s1, s2, s3, s4, s5, s6, s7, s8, .val (.int i9), .val (.int i10), s11, s12, .val (.long j13), .second, .val (.long j15), .second, .val (.long j17), .second, .val (.long j19), .second] [])) _
  refine XS.iconst X0.here hx rfl (hb hby at_159) ?_
  show Steps p.tables e below (T0.setTop (mkF m 160 #[s0, s1, s2, s3, s4, s5, s6, s7, s8, .val (.int i9), .val (.int i10), s11, s12, .val (.long j13), .second, .val (.long j15), .second, .val (.long j17), .second, .val (.long j19), .second] [(.int (1 : Int32))])) _
  refine XS.goto X0.here hx rfl (pc0 := 160) (pc' := 164) rfl (hb hby at_160) (by decide) (by decide) ?_
  exact kt

theorem own_rem3 (y : Int32) (h0 : 0 ≤ y.toInt) : ∃ k : Nat, k < 3 ∧ y % (3 : Int32) = Int32.ofNat k := by
  have h1 := (c_irem y 3 3 (by decide)).1 h0
  refine ⟨(y % (3 : Int32)).toInt.toNat, by omega, ?_⟩
  apply Int32.toInt_inj.mp
  rw [own_ti (by omega)]; omega
theorem own_pos1 (x : Int32) : 0 ≤ (x &&& (2147483647 : Int32)).toInt := by
  have h : (x &&& (2147483647 : Int32)).toBitVec.msb = false := by
    show (x.toBitVec &&& 2147483647#32).msb = false
    rw [BitVec.msb_and]
    have : (2147483647#32).msb = false := by decide
    rw [this, Bool.and_false]
  show 0 ≤ (x &&& (2147483647 : Int32)).toBitVec.toInt
  rw [BitVec.toInt_eq_msb_cond, h]; simp
theorem own_pos2 (x : Int32) : 0 ≤ ((x.toUInt32 >>> ((8 : Int32) &&& 31).toUInt32).toInt32).toInt := by
  have h : ((x.toUInt32 >>> ((8 : Int32) &&& 31).toUInt32).toInt32).toBitVec = x.toBitVec >>> 8 := rfl
  have h2 : (x.toBitVec >>> 8).toNat < 2 ^ 24 := by
    rw [BitVec.toNat_ushiftRight, Nat.shiftRight_eq_div_pow]
    have := x.toBitVec.isLt
    omega
  show 0 ≤ ((x.toUInt32 >>> ((8 : Int32) &&& 31).toUInt32).toInt32).toBitVec.toInt
  rw [h, BitVec.toInt_eq_toNat_of_lt (by omega)]; omega
theorem own_eqI {a : Term} {k : Int32} {args : Array Value} {s : State} (h : (Jvm.Cond.eq a (.int k)).value args s none s [] = some true) : a.eval args s none [] s = some (.int k) := by
  obtain ⟨x, y, hx, hy, kx, ky⟩ := cmp_v (Or.inl h)
  have hk : (Term.int k).eval args s none [] s = some (.int k) := Term.int_eval k
  obtain rfl : y = .int k := Option.some.inj (hy.symm.trans hk)
  obtain ⟨z, rfl⟩ := ky
  have hz : z = k := by simpa [Jvm.Cond.value, hx, hk] using h
  rw [hx, hz]
theorem own_none {Z : State} {args : Array Value} {t : Term} {a : Addr} {cl : Cell} (ev : t.eval args Z none [] Z = some (.ref a)) (A : Arr Z Z.heap a cl .long) (hl : (Jvm.Cond.eq (.length t) (.int 0)).value args Z none Z [] = some true) : own_AF Z Z.heap a .long 0 (fun _ => .long 0) := by
  have h := own_eqI hl
  obtain ⟨a', c', e', ha', hv⟩ := Term.length_spec h
  obtain rfl : a = a' := Value.ref.inj (Option.some.inj (ev.symm.trans e'))
  have hc := (State.arrayAt?_spec ha').1
  obtain rfl : cl = c' := Option.some.inj (A.1.symm.trans hc)
  have hs : cl.slots.size.toInt32 = 0 := (Value.int.inj hv).symm
  by_cases hb : cl.slots.size < 2147483648
  · have q := len_toInt hb
    rw [hs] at q
    have h0 : (0 : Int32).toInt = 0 := by decide
    have hz : cl.slots.size = 0 := by omega
    exact ⟨by decide, cl, A, hz, fun j hj => absurd hj (Nat.not_lt_zero j), fun j hj => absurd hj (Nat.not_lt_zero j)⟩
  · simp [Term.eval, ev, ha', hb] at h
theorem pn_0 : plainName "com/example/syncline/syncline/client/bench/TallyCommittedPinLaw" = true := by first | (simp [plainName, overriddenIn]; done) | decide +kernel
theorem ef_0 (m : MethodId) (x0 : Int32) (x1 : Int64) (x2 : Int64) (x3 : Int64) (x4 : Int64) : entryFrame m #[(.int x0), (.long x1), (.long x2), (.long x3), (.long x4)] maxLocals = mkF m 0 #[.val (.int x0), .val (.long x1), .second, .val (.long x2), .second, .val (.long x3), .second, .val (.long x4), .second, .unset, .unset, .unset, .unset, .unset, .unset, .unset, .unset, .unset, .unset, .unset, .unset] [] := by first | (simp [entryFrame, mkF, argsToLocals, Value.category, maxLocals]; done) | rfl

set_option maxRecDepth 65536 in
set_option maxHeartbeats 40000000 in
theorem rm0 (l : Launch) (Z : State) (a0 : Array Value) (hw : ∀ d ∈ tables_1, d.before a0 Z = true) (ws : List Jvm.Cond) (p1 : Int32) (q2 q3 q4 q5 : Int64) (z : Addr) (h0 : Heap) (n0 : Nat) (Z0 : n0 ≤ h0.size) (SN : Sta Z h0 "com/example/syncline/syncline/client/bench/Latencies" "NONE" "[J" (.ref z)) (V0 : own_AF Z h0 z .long 0 (fun _ => .long 0)) :
    MetFree l x (head1 (Jvm.Cond.code x code maxLocals ret :: ws) room_1) (fun a U => a = #[(.int p1), (.long q2), (.long q3), (.long q4), (.long q5)] ∧ Z.Warmed39 U.vm ∧ U.heap = h0) (fun _ _ _ _ _ => True) (fun _ U o U' => ∃ v L, o = .returned v ∧ (v = some (.int 1) ∧ Fr n0 L) ∧ FrameEnd U o U' L room_1.cells room_1.slots) := by
  refine MetFree.of_bodySF (plainFor_of_name pn_0) hisR ?_
  intro p e s m args below meth c s₁ Bd hml0 hP hK
  obtain ⟨rfl, hZ, hh⟩ := hP
  have hx := Bd.exec
  have hby := Bd.bytes
  have hml : c.maxLocals = 21 := hml0
  have hown : s.vm.findClass "com/example/syncline/syncline/client/bench/TallyCommittedPinLaw" = some m.cls := findClass_of_methodNamed Bd.named
  have hnm := (name_of_methodNamed Bd.named Bd.method).1
  have X0 : Stand p l e room_1 s m #[(.int p1), (.long q2), (.long q3), (.long q4), (.long q5)] below meth c s₁ [] 0 0 := Stand.of_body Bd
  have e0 : s₁.heap = h0 := by rw [← hh, Bd.state]; rfl
  have N0 := Fr.nil n0
  have pre0 : ∀ t, Steps p.tables e below (s₁.setTop (mkF m 0 #[.val (.int p1), .val (.long q2), .second, .val (.long q3), .second, .val (.long q4), .second, .val (.long q5), .second, .unset, .unset, .unset, .unset, .unset, .unset, .unset, .unset, .unset, .unset, .unset, .unset] [])) t → Steps p.tables e below (s₁.setTop (entryFrame m #[(.int p1), (.long q2), (.long q3), (.long q4), (.long q5)] maxLocals)) t := fun t k => castTop (ef_0 m p1 q2 q3 q4 q5) k
  obtain ⟨a, ha3, ea⟩ := own_rem3 (p1 &&& (2147483647 : Int32)) (own_pos1 p1)
  obtain ⟨b, hb3, eb⟩ := own_rem3 ((p1.toUInt32 >>> ((8 : Int32) &&& 31).toUInt32).toInt32) (own_pos2 p1)
  have c01 : ((p1 &&& (2147483647 : Int32)) % (3 : Int32)) < (1 : Int32) ↔ a < 1 := by rw [ea]; exact own_ltn (n := 1) (by omega) (by decide)
  have c02 : ((p1 &&& (2147483647 : Int32)) % (3 : Int32)) < (2 : Int32) ↔ a < 2 := by rw [ea]; exact own_ltn (n := 2) (by omega) (by decide)
  have c11 : (((p1.toUInt32 >>> ((8 : Int32) &&& 31).toUInt32).toInt32) % (3 : Int32)) < (1 : Int32) ↔ b < 1 := by rw [eb]; exact own_ltn (n := 1) (by omega) (by decide)
  have c12 : (((p1.toUInt32 >>> ((8 : Int32) &&& 31).toUInt32).toInt32) % (3 : Int32)) < (2 : Int32) ↔ b < 2 := by rw [eb]; exact own_ltn (n := 2) (by omega) (by decide)
  obtain ⟨T1, X1, e1, st1⟩ := tn0_0_16 p1 (.val (.long q2)) .second (.val (.long q3)) .second (.val (.long q4)) .second (.val (.long q5)) .second X0 hx hZ hw hby hml hown e0 One.u One.u (by decide) (by decide)
  have N1 := N0
  have Z1 := Z0
  obtain ⟨tA, T2, h2, l2, X2, e2, N2, Z2, ⟨uA, lA, gA, TA2, UA2, LA2, GA2, sA, sA1, oA1, oA2, oA3, K2⟩, st2⟩ := tn0_16_25 (.val (.int p1)) (.val (.long q2)) .second (.val (.long q3)) .second (.val (.long q4)) .second (.val (.long q5)) .second (.val (.int ((p1 &&& (2147483647 : Int32)) % (3 : Int32)))) (.val (.int (((p1.toUInt32 >>> ((8 : Int32) &&& 31).toUInt32).toInt32) % (3 : Int32)))) z X1 hx hZ hw hby hml hown e1 N1 Z1 One.u SN V0
  obtain ⟨tB, T4, h4, l4, X4, e4, N4, Z4, ⟨uB, lB, gB, TB4, UB4, LB4, GB4, sB, sB1, oB1, oB2, oB3, K4⟩, st4⟩ := tn0_25_34 (.val (.int p1)) (.val (.long q2)) .second (.val (.long q3)) .second (.val (.long q4)) .second (.val (.long q5)) .second (.val (.int ((p1 &&& (2147483647 : Int32)) % (3 : Int32)))) (.val (.int (((p1.toUInt32 >>> ((8 : Int32) &&& 31).toUInt32).toInt32) % (3 : Int32)))) (.val (.ref tA)) z X2 hx hZ hw hby hml hown e2 N2 Z2 One.u (own_sta0 SN K2) (V0.keep K2 nin0)
  have tAl : @LT.lt Nat instLTNat tA h2.size := TA2.1.lt
  have oA1' : @LT.lt Nat instLTNat uA lA := oA1
  have oA2' : @LT.lt Nat instLTNat lA gA := oA2
  have oA3' : @LT.lt Nat instLTNat gA h2.size := oA3
  have oB1' : @LT.lt Nat instLTNat uB lB := oB1
  have oB2' : @LT.lt Nat instLTNat lB gB := oB2
  have sB' : @LE.le Nat instLENat h2.size tB := sB
  have sB1' : @LE.le Nat instLENat h2.size uB := sB1
  have S4 : own_S Z n0 h4 z tA uA lA gA z 0 tB uB lB gB z 0 := by
    refine ⟨TA2.keep K4 nin0, TB4, UA2.keep K4 nin0 nin0, UB4, LA2.keep K4 nin0 nin0, GA2.keep K4 nin0 nin0, LB4, GB4, fun v _ => absurd v (by decide), ?_, ⟨?_, ?_, ?_⟩, ⟨?_, ?_, ?_⟩, ⟨?_, ?_, ?_⟩, ⟨?_, ?_, ?_⟩, ⟨?_, ?_⟩⟩ <;> exact Nat.ne_of_gt (by omega)
  obtain ⟨wA4, wB4, S4⟩ : ∃ x y : Addr, own_S Z n0 h4 z tA uA lA gA x 0 tB uB lB gB y 0 := ⟨z, z, S4⟩
  obtain ⟨T5, h5, l5, w5, X5, e5, N5, Z5, S5, st5⟩ : ∃ (T' : State) (h' : Heap) (locs' : List Loc) (w' : Addr), Stand p l e room_1 s m _ below meth c T' locs' 9 30 ∧ T'.heap = h' ∧ Fr n0 locs' ∧ n0 ≤ h'.size ∧ own_S Z n0 h' z tA uA lA gA w' (min a 1) tB uB lB gB wB4 0 ∧ ∀ target, Steps p.tables e below (T'.setTop (mkF m 46 #[.val (.int p1), .val (.long q2), .second, .val (.long q3), .second, .val (.long q4), .second, .val (.long q5), .second, .val (.int ((p1 &&& (2147483647 : Int32)) % (3 : Int32))), .val (.int (((p1.toUInt32 >>> ((8 : Int32) &&& 31).toUInt32).toInt32) % (3 : Int32))), .val (.ref tA), .val (.ref tB), .unset, .unset, .unset, .unset, .unset, .unset, .unset, .unset] [])) target → Steps p.tables e below (T4.setTop (mkF m 34 #[.val (.int p1), .val (.long q2), .second, .val (.long q3), .second, .val (.long q4), .second, .val (.long q5), .second, .val (.int ((p1 &&& (2147483647 : Int32)) % (3 : Int32))), .val (.int (((p1.toUInt32 >>> ((8 : Int32) &&& 31).toUInt32).toInt32) % (3 : Int32))), .val (.ref tA), .val (.ref tB), .unset, .unset, .unset, .unset, .unset, .unset, .unset, .unset] [])) target := by
    by_cases hc : ((p1 &&& (2147483647 : Int32)) % (3 : Int32)) < (1 : Int32)
    · have q : (min a 1) = 0 := by have := c01.mp hc; omega
      obtain ⟨T', X', e', st'⟩ := own_sk34 (.val (.int p1)) (.val (.long q2)) .second (.val (.long q3)) .second (.val (.long q4)) .second (.val (.long q5)) .second ((p1 &&& (2147483647 : Int32)) % (3 : Int32)) (.val (.int (((p1.toUInt32 >>> ((8 : Int32) &&& 31).toUInt32).toInt32) % (3 : Int32)))) (.val (.ref tA)) (.val (.ref tB)) .unset .unset .unset .unset .unset .unset .unset .unset X4 hx hZ hw hby hml hown e4 hc
      rw [q]
      exact ⟨T', h4, l4, _, X'.mono (by decide) (by decide), e', N4, Z4, S4, st'⟩
    · have q : (min a 1) = 0 + 1 := by have := mt c01.mpr hc; omega
      obtain ⟨T', h', l', X', e', N', Z', ⟨w', S'⟩, st'⟩ := own_ad34 (.val (.int p1)) q2 (.val (.long q3)) .second (.val (.long q4)) .second (.val (.long q5)) .second ((p1 &&& (2147483647 : Int32)) % (3 : Int32)) (.val (.int (((p1.toUInt32 >>> ((8 : Int32) &&& 31).toUInt32).toInt32) % (3 : Int32)))) tA (.val (.ref tB)) .unset .unset .unset .unset .unset .unset .unset .unset z uA lA gA wA4 0 tB uB lB gB wB4 0 X4 hx hZ hw hby hml hown e4 N4 Z4 S4.1.1 hc S4 (by omega)
      rw [q]
      exact ⟨T', h', l', w', X', e', N', Z', S', st'⟩
  obtain ⟨wA5, wB5, S5⟩ : ∃ x y : Addr, own_S Z n0 h5 z tA uA lA gA x (min a 1) tB uB lB gB y 0 := ⟨w5, wB4, S5⟩
  obtain ⟨T6, h6, l6, w6, X6, e6, N6, Z6, S6, st6⟩ : ∃ (T' : State) (h' : Heap) (locs' : List Loc) (w' : Addr), Stand p l e room_1 s m _ below meth c T' locs' 10 34 ∧ T'.heap = h' ∧ Fr n0 locs' ∧ n0 ≤ h'.size ∧ own_S Z n0 h' z tA uA lA gA w' (min a 2) tB uB lB gB wB5 0 ∧ ∀ target, Steps p.tables e below (T'.setTop (mkF m 58 #[.val (.int p1), .val (.long q2), .second, .val (.long q3), .second, .val (.long q4), .second, .val (.long q5), .second, .val (.int ((p1 &&& (2147483647 : Int32)) % (3 : Int32))), .val (.int (((p1.toUInt32 >>> ((8 : Int32) &&& 31).toUInt32).toInt32) % (3 : Int32))), .val (.ref tA), .val (.ref tB), .unset, .unset, .unset, .unset, .unset, .unset, .unset, .unset] [])) target → Steps p.tables e below (T5.setTop (mkF m 46 #[.val (.int p1), .val (.long q2), .second, .val (.long q3), .second, .val (.long q4), .second, .val (.long q5), .second, .val (.int ((p1 &&& (2147483647 : Int32)) % (3 : Int32))), .val (.int (((p1.toUInt32 >>> ((8 : Int32) &&& 31).toUInt32).toInt32) % (3 : Int32))), .val (.ref tA), .val (.ref tB), .unset, .unset, .unset, .unset, .unset, .unset, .unset, .unset] [])) target := by
    by_cases hc : ((p1 &&& (2147483647 : Int32)) % (3 : Int32)) < (2 : Int32)
    · have q : (min a 2) = (min a 1) := by have := c02.mp hc; omega
      obtain ⟨T', X', e', st'⟩ := own_sk46 (.val (.int p1)) (.val (.long q2)) .second (.val (.long q3)) .second (.val (.long q4)) .second (.val (.long q5)) .second ((p1 &&& (2147483647 : Int32)) % (3 : Int32)) (.val (.int (((p1.toUInt32 >>> ((8 : Int32) &&& 31).toUInt32).toInt32) % (3 : Int32)))) (.val (.ref tA)) (.val (.ref tB)) .unset .unset .unset .unset .unset .unset .unset .unset X5 hx hZ hw hby hml hown e5 hc
      rw [q]
      exact ⟨T', h5, l5, _, X'.mono (by decide) (by decide), e', N5, Z5, S5, st'⟩
    · have q : (min a 2) = (min a 1) + 1 := by have := mt c02.mpr hc; omega
      obtain ⟨T', h', l', X', e', N', Z', ⟨w', S'⟩, st'⟩ := own_ad46 (.val (.int p1)) (.val (.long q2)) .second q3 (.val (.long q4)) .second (.val (.long q5)) .second ((p1 &&& (2147483647 : Int32)) % (3 : Int32)) (.val (.int (((p1.toUInt32 >>> ((8 : Int32) &&& 31).toUInt32).toInt32) % (3 : Int32)))) tA (.val (.ref tB)) .unset .unset .unset .unset .unset .unset .unset .unset z uA lA gA wA5 (min a 1) tB uB lB gB wB5 0 X5 hx hZ hw hby hml hown e5 N5 Z5 S5.1.1 hc S5 (by omega)
      rw [q]
      exact ⟨T', h', l', w', X', e', N', Z', S', st'⟩
  obtain ⟨wA6, wB6, S6⟩ : ∃ x y : Addr, own_S Z n0 h6 z tA uA lA gA x (min a 2) tB uB lB gB y 0 := ⟨w6, wB5, S6⟩
  obtain ⟨T7, h7, l7, w7, X7, e7, N7, Z7, S7, st7⟩ : ∃ (T' : State) (h' : Heap) (locs' : List Loc) (w' : Addr), Stand p l e room_1 s m _ below meth c T' locs' 11 38 ∧ T'.heap = h' ∧ Fr n0 locs' ∧ n0 ≤ h'.size ∧ own_S Z n0 h' z tA uA lA gA wA6 (min a 2) tB uB lB gB w' (min b 1) ∧ ∀ target, Steps p.tables e below (T'.setTop (mkF m 71 #[.val (.int p1), .val (.long q2), .second, .val (.long q3), .second, .val (.long q4), .second, .val (.long q5), .second, .val (.int ((p1 &&& (2147483647 : Int32)) % (3 : Int32))), .val (.int (((p1.toUInt32 >>> ((8 : Int32) &&& 31).toUInt32).toInt32) % (3 : Int32))), .val (.ref tA), .val (.ref tB), .unset, .unset, .unset, .unset, .unset, .unset, .unset, .unset] [])) target → Steps p.tables e below (T6.setTop (mkF m 58 #[.val (.int p1), .val (.long q2), .second, .val (.long q3), .second, .val (.long q4), .second, .val (.long q5), .second, .val (.int ((p1 &&& (2147483647 : Int32)) % (3 : Int32))), .val (.int (((p1.toUInt32 >>> ((8 : Int32) &&& 31).toUInt32).toInt32) % (3 : Int32))), .val (.ref tA), .val (.ref tB), .unset, .unset, .unset, .unset, .unset, .unset, .unset, .unset] [])) target := by
    by_cases hc : (((p1.toUInt32 >>> ((8 : Int32) &&& 31).toUInt32).toInt32) % (3 : Int32)) < (1 : Int32)
    · have q : (min b 1) = 0 := by have := c11.mp hc; omega
      obtain ⟨T', X', e', st'⟩ := own_sk58 (.val (.int p1)) (.val (.long q2)) .second (.val (.long q3)) .second (.val (.long q4)) .second (.val (.long q5)) .second (.val (.int ((p1 &&& (2147483647 : Int32)) % (3 : Int32)))) (((p1.toUInt32 >>> ((8 : Int32) &&& 31).toUInt32).toInt32) % (3 : Int32)) (.val (.ref tA)) (.val (.ref tB)) .unset .unset .unset .unset .unset .unset .unset .unset X6 hx hZ hw hby hml hown e6 hc
      rw [q]
      exact ⟨T', h6, l6, _, X'.mono (by decide) (by decide), e', N6, Z6, S6, st'⟩
    · have q : (min b 1) = 0 + 1 := by have := mt c11.mpr hc; omega
      obtain ⟨T', h', l', X', e', N', Z', ⟨w', S'⟩, st'⟩ := own_ad58 (.val (.int p1)) (.val (.long q2)) .second (.val (.long q3)) .second q4 (.val (.long q5)) .second (.val (.int ((p1 &&& (2147483647 : Int32)) % (3 : Int32)))) (((p1.toUInt32 >>> ((8 : Int32) &&& 31).toUInt32).toInt32) % (3 : Int32)) (.val (.ref tA)) tB .unset .unset .unset .unset .unset .unset .unset .unset z tA uA lA gA wA6 (min a 2) uB lB gB wB6 0 X6 hx hZ hw hby hml hown e6 N6 Z6 S6.2.1.1 hc S6 (by omega)
      rw [q]
      exact ⟨T', h', l', w', X', e', N', Z', S', st'⟩
  obtain ⟨wA7, wB7, S7⟩ : ∃ x y : Addr, own_S Z n0 h7 z tA uA lA gA x (min a 2) tB uB lB gB y (min b 1) := ⟨wA6, w7, S7⟩
  obtain ⟨T8, h8, l8, w8, X8, e8, N8, Z8, S8, st8⟩ : ∃ (T' : State) (h' : Heap) (locs' : List Loc) (w' : Addr), Stand p l e room_1 s m _ below meth c T' locs' 12 42 ∧ T'.heap = h' ∧ Fr n0 locs' ∧ n0 ≤ h'.size ∧ own_S Z n0 h' z tA uA lA gA wA7 (min a 2) tB uB lB gB w' (min b 2) ∧ ∀ target, Steps p.tables e below (T'.setTop (mkF m 84 #[.val (.int p1), .val (.long q2), .second, .val (.long q3), .second, .val (.long q4), .second, .val (.long q5), .second, .val (.int ((p1 &&& (2147483647 : Int32)) % (3 : Int32))), .val (.int (((p1.toUInt32 >>> ((8 : Int32) &&& 31).toUInt32).toInt32) % (3 : Int32))), .val (.ref tA), .val (.ref tB), .unset, .unset, .unset, .unset, .unset, .unset, .unset, .unset] [])) target → Steps p.tables e below (T7.setTop (mkF m 71 #[.val (.int p1), .val (.long q2), .second, .val (.long q3), .second, .val (.long q4), .second, .val (.long q5), .second, .val (.int ((p1 &&& (2147483647 : Int32)) % (3 : Int32))), .val (.int (((p1.toUInt32 >>> ((8 : Int32) &&& 31).toUInt32).toInt32) % (3 : Int32))), .val (.ref tA), .val (.ref tB), .unset, .unset, .unset, .unset, .unset, .unset, .unset, .unset] [])) target := by
    by_cases hc : (((p1.toUInt32 >>> ((8 : Int32) &&& 31).toUInt32).toInt32) % (3 : Int32)) < (2 : Int32)
    · have q : (min b 2) = (min b 1) := by have := c12.mp hc; omega
      obtain ⟨T', X', e', st'⟩ := own_sk71 (.val (.int p1)) (.val (.long q2)) .second (.val (.long q3)) .second (.val (.long q4)) .second (.val (.long q5)) .second (.val (.int ((p1 &&& (2147483647 : Int32)) % (3 : Int32)))) (((p1.toUInt32 >>> ((8 : Int32) &&& 31).toUInt32).toInt32) % (3 : Int32)) (.val (.ref tA)) (.val (.ref tB)) .unset .unset .unset .unset .unset .unset .unset .unset X7 hx hZ hw hby hml hown e7 hc
      rw [q]
      exact ⟨T', h7, l7, _, X'.mono (by decide) (by decide), e', N7, Z7, S7, st'⟩
    · have q : (min b 2) = (min b 1) + 1 := by have := mt c12.mpr hc; omega
      obtain ⟨T', h', l', X', e', N', Z', ⟨w', S'⟩, st'⟩ := own_ad71 (.val (.int p1)) (.val (.long q2)) .second (.val (.long q3)) .second (.val (.long q4)) .second q5 (.val (.int ((p1 &&& (2147483647 : Int32)) % (3 : Int32)))) (((p1.toUInt32 >>> ((8 : Int32) &&& 31).toUInt32).toInt32) % (3 : Int32)) (.val (.ref tA)) tB .unset .unset .unset .unset .unset .unset .unset .unset z tA uA lA gA wA7 (min a 2) uB lB gB wB7 (min b 1) X7 hx hZ hw hby hml hown e7 N7 Z7 S7.2.1.1 hc S7 (by omega)
      rw [q]
      exact ⟨T', h', l', w', X', e', N', Z', S', st'⟩
  obtain ⟨wA8, wB8, S8⟩ : ∃ x y : Addr, own_S Z n0 h8 z tA uA lA gA x (min a 2) tB uB lB gB y (min b 2) := ⟨wA7, w8, S8⟩
  obtain ⟨T9, h9, l9, X9, e9, N9, Z9, q9, st9⟩ := tn0_84_98 (.val (.int p1)) (.val (.long q2)) .second (.val (.long q3)) .second (.val (.long q4)) .second (.val (.long q5)) .second (.val (.int ((p1 &&& (2147483647 : Int32)) % (3 : Int32)))) (.val (.int (((p1.toUInt32 >>> ((8 : Int32) &&& 31).toUInt32).toInt32) % (3 : Int32)))) tA tB uA wA8 (min a 2) uB wB8 (min b 2) X8 hx hZ hw hby hml hown e8 N8 Z8 S8.1.1 S8.2.1.1 S8.1.2.2.1 S8.1.2.2.2.2.2.2.1 S8.2.2.1 S8.2.1.2.2.1 S8.2.1.2.2.2.2.2.2.1 S8.2.2.2.1
  subst q9
  have S9 := S8
  obtain ⟨T10, h10, l10, X10, e10, N10, Z10, ⟨EA, EB, ⟨w10, XA⟩, XB, FA, GA, FB, GB⟩, st10⟩ := tn0_98_105 (.val (.int p1)) (.val (.long q2)) .second (.val (.long q3)) .second (.val (.long q4)) .second (.val (.long q5)) .second (.val (.int ((p1 &&& (2147483647 : Int32)) % (3 : Int32)))) (.val (.int (((p1.toUInt32 >>> ((8 : Int32) &&& 31).toUInt32).toInt32) % (3 : Int32)))) tA tB (.val (.long ((Int32.ofNat (min a 2)).toInt64 + 0))) .second (.val (.long ((Int32.ofNat (min b 2)).toInt64 + 0))) .second z uA lA gA wA8 (min a 2) uB lB gB wB8 (min b 2) X9 hx hZ hw hby hml hown e9 N9 Z9 S8.1.1 S8 (by omega) (by omega)
  obtain ⟨T11, h11, l11, X11, e11, N11, Z11, q11, st11⟩ := tn0_105_119 (.val (.int p1)) (.val (.long q2)) .second (.val (.long q3)) .second (.val (.long q4)) .second (.val (.long q5)) .second (.val (.int ((p1 &&& (2147483647 : Int32)) % (3 : Int32)))) (.val (.int (((p1.toUInt32 >>> ((8 : Int32) &&& 31).toUInt32).toInt32) % (3 : Int32)))) tA tB (.val (.long ((Int32.ofNat (min a 2)).toInt64 + 0))) .second (.val (.long ((Int32.ofNat (min b 2)).toInt64 + 0))) .second uA w10 (min a 2 + min b 2) uB wB8 (min b 2) X10 hx hZ hw hby hml hown e10 N10 Z10 EA EB FA GA XA FB GB XB
  have two : ∀ x, x < 3 → ∀ y, y < 3 → (Int32.ofNat (min x 2 + min y 2)).toInt64 + 0 = (Int32.ofNat x).toInt64 + (Int32.ofNat y).toInt64 := by decide
  have ma : min a 2 = a := by omega
  have mb : min b 2 = b := by omega
  obtain ⟨T12, X12, e12, st12⟩ := tn0_119_164 (.val (.int p1)) (.val (.long q2)) .second (.val (.long q3)) .second (.val (.long q4)) .second (.val (.long q5)) .second ((p1 &&& (2147483647 : Int32)) % (3 : Int32)) (((p1.toUInt32 >>> ((8 : Int32) &&& 31).toUInt32).toInt32) % (3 : Int32)) (.val (.ref tA)) (.val (.ref tB)) ((Int32.ofNat (min a 2)).toInt64 + 0) ((Int32.ofNat (min b 2)).toInt64 + 0) ((Int32.ofNat (min a 2 + min b 2)).toInt64 + 0) ((Int32.ofNat (min b 2)).toInt64 + 0) X11 hx hZ hw hby hml hown e11 ((lw_eq _ _).mpr (by rw [ea, ma]; exact Int64.add_zero _)) ((lw_eq _ _).mpr (by rw [eb, mb]; exact Int64.add_zero _)) ((lw_eq _ _).mpr (by rw [ea, eb]; exact two a ha3 b hb3)) ((lw_eq _ _).mpr (by rw [eb, mb]; exact Int64.add_zero _))
  obtain ⟨fs, hr, hrun, hended, hW, hsame⟩ := X12.leave (v := some (.int (1 : Int32))) (fun h => by rw [Bd.returns] at h; cases h)
  refine ⟨_, _, pre0 _ ?_, hrun, hended, _, _, rfl, ⟨rfl, N11⟩, ⟨_, rfl⟩, hW, hsame.mono (by decide) (by decide)⟩
  exact st1 _ (st2 _ (st4 _ (st5 _ (st6 _ (st7 _ (st8 _ (st9 _ (st10 _ (st11 _ (st12 _ (retN X12 hx (t := .boolean) Bd.returns (by simp) (hb hby at_164) hr)))))))))))
set_option maxRecDepth 65536 in
set_option maxHeartbeats 40000000 in
theorem comes_1 {Post : Tables → Env → Array Value → State → Outcome → State → Prop} (hpost : ∀ tb e args s v u, (limb_1_1.after args s (.returned v) u = true ∧ limb_1_2.after args s (.returned v) u = true ∧ True) → FrameEnd s (.returned v) u (Jvm.fieldLocs frame_1_writes args s ++ Jvm.arrayLocs frame_1_arrays args s ++ Jvm.staticLocs frame_1_statics s) 32 192 → Post tb e args s (.returned v) u) :
    ArmFor flags0 classFile x code maxLocals ret World_1 tables_1 room_1 Calls_1 rest_1 Pre_1 Post := by
  intro l hfl _ _ p e ha hc hk s m args below hf hA hF happ hP
  obtain ⟨hcalls, hrest, hpre⟩ := hP
  obtain ⟨-, -, -, hnamed, -, -, -, hat⟩ := (Spec.applies_iff hf).mp happ
  obtain ⟨hg, hn⟩ := and_e (Cond.before_iff.mp (show (Jvm.Cond.and given_1 narrow_1).before args s = true from hpre))
  obtain ⟨g19, g20⟩ := and_e hg
  obtain ⟨g21, g22⟩ := and_e g20
  obtain ⟨g23, g24⟩ := and_e g22
  obtain ⟨g25, g26⟩ := and_e g24
  obtain ⟨g27, g28⟩ := and_e g26
  obtain ⟨w0, w1, w2, w3, w4, rfl⟩ : ∃ w0 w1 w2 w3 w4 : Value, args = #[w0, w1, w2, w3, w4] := by
    have hs : args.size = 5 := by simpa [Cond.value, given_1] using g19
    obtain ⟨L⟩ := args
    match L, hs with
    | [w0, w1, w2, w3, w4], _ => exact ⟨w0, w1, w2, w3, w4, rfl⟩
  have hw := fun d (hd : d ∈ tables_1) => atoms_spec (ws := Jvm.Cond.code x code maxLocals ret :: tables_1) hat d (List.mem_cons_of_mem _ hd)
  have hfit : Fit s := fun {y c} hc i hi => by
    obtain ⟨ha, rfl⟩ := Array.getElem?_eq_some_iff.mp hc
    have q := List.all_eq_true.mp ((Array.all_eq_true_iff_forall_mem.mp hF) _ (Array.getElem_mem ha)) i (List.mem_range.mpr hi)
    simpa [Array.getElem?_eq_getElem hi] using q
  obtain ⟨i0, ei0⟩ := is_v g21
  obtain rfl : w0 = (.int i0) := Option.some.inj ei0
  obtain ⟨i1, ei1⟩ := isL_v g23
  obtain rfl : w1 = (.long i1) := Option.some.inj ei1
  obtain ⟨i2, ei2⟩ := isL_v g25
  obtain rfl : w2 = (.long i2) := Option.some.inj ei2
  obtain ⟨i3, ei3⟩ := isL_v g27
  obtain rfl : w3 = (.long i3) := Option.some.inj ei3
  obtain ⟨i4, ei4⟩ := isL_v g28
  obtain rfl : w4 = (.long i4) := Option.some.inj ei4
  have hn' := hn
  simp only [narrow_1] at hn'
  obtain ⟨xA, hn'⟩ := and_e hn'
  obtain ⟨xE, xL⟩ := and_e hn'
  obtain ⟨z, ez⟩ := arr_v xA
  obtain ⟨cz, Az⟩ := Arr.start ez xA
  have SN : Sta s s.heap "com/example/syncline/syncline/client/bench/Latencies" "NONE" "[J" (.ref z) := Sta.start ez (Or.inr ⟨(hw _ (List.mem_of_getElem? (i := 12) rfl)), (hw _ (List.mem_of_getElem? (i := 18) rfl))⟩)
  have V0 := own_none ez Az xL
  have all : MetFree l x (head1 (Jvm.Cond.code x code maxLocals ret :: tables_1) room_1) (fun a U => a = #[(.int i0), (.long i1), (.long i2), (.long i3), (.long i4)] ∧ s.Warmed39 U.vm ∧ U.heap = s.heap) (fun _ _ _ _ _ => True) (fun _ U o U' => ∃ v L, o = .returned v ∧ (v = some (.int 1) ∧ Fr s.heap.size L) ∧ FrameEnd U o U' L room_1.cells room_1.slots) := by
    exact rm0 l s _ hw tables_1 i0 i1 i2 i3 i4 z s.heap s.heap.size (Nat.le_refl _) SN V0
  obtain ⟨n, o, h1, h2, h3, _, L, rfl, ⟨rfl, N⟩, hq⟩ := all p e ha hc hk s m _ below hf ((Spec.applies_iff_loose hf).mp happ).1 ⟨rfl, State.Warmed39.refl s, rfl⟩ trivial
  refine ⟨n, _, h1, h2, h3, hpost _ _ _ _ _ _ ⟨Cond.after_iff.mpr rfl, Cond.after_iff.mpr (eq_i res_at (Term.int_eval (1)) rfl), trivial⟩ ⟨hq.1, hq.2.1, (hq.2.2.sift fun y hy => Or.inr (N y hy)).mono (by decide) (by decide)⟩⟩
theorem main_1_1 : Claimed_1_1 := comes_1 fun _ _ _ _ _ _ h hF => ⟨h.1, hF⟩
theorem main_1_2 : Claimed_1_2 := comes_1 fun _ _ _ _ _ _ h hF => ⟨h.2.1, hF⟩
end Jvm.Pilot.@@N@@
namespace Jvm.Pilot.@@N@@
open Jvm Jvm.ClassFile Sem Op Lib Jvm.Free Jvm.Stand Jvm.Pilot.@@N@@.Jvm.D
/-! MADE BY PROGRAM (witnessworld.py) out of the Statement's table words and the real class files: 15 classes; the members and pool entries that the words name. The judged class is class 1, her method 1. -/
namespace start1
open Jvm.ClassFile
def u (s : String) : CpInfo := .utf8 (stringToUtf16 s)
/-- a pool by its gaps: so many unusable entries, then the entry; so many at the end -/
def gap : Nat → List CpInfo → List CpInfo
  | 0, r => r
  | n + 1, r => .unusable :: gap n r
def poolList (es : List (Nat × CpInfo)) (last : Nat) : List CpInfo := es.foldr (fun e r => gap e.1 (e.2 :: r)) (gap last [])
def pool (es : List (Nat × CpInfo)) (last : Nat) : Array CpInfo := ⟨poolList es last⟩
def fileOf (pool : Array CpInfo) (this : Nat) (attrs : Array Attribute := #[]) (ms : Array MethodInfo := #[]) (fl : Nat := 33) (sup : Nat := 0) (ifs : Array Nat := #[]) (fds : Array FieldInfo := #[]) : ClassFile where
  minorVersion := 0
  majorVersion := 65
  constantPool := pool
  accessFlags := fl
  thisClass := this
  superClass := sup
  interfaces := ifs
  fields := fds
  methods := ms
  attributes := attrs
def plain (name : String) (sup : Option ClassId) : Class where
  name := name
  kind := .ordinary
  loader := none
  accessFlags := 33
  super := sup
  interfaces := #[]
  cf := none
  fields := #[]
  methods := #[]
  instanceTypes := #[]
  staticTypes := #[]
  resolved := #[]
  callSites := []
  init := .initialized
  statics := none
  mirror := none

def pool0 : Array CpInfo := pool [(5, u "<init>"), (0, u "()V"), (1, .class_ 10), (1, u "java/lang/Object")] 113

def k0c0 : Code := { maxStack := 0, maxLocals := 1, code := object_method_1_code, exceptionTable := #[], attributes := #[] }
def k0m0 : Method := { name := "<init>", desc := "()V", sig := { parameters := [], returnType := none }, accessFlags := 1, code := some k0c0 }
/-- java/lang/Object -/
def k0 : Class := { plain "java/lang/Object" none with
  accessFlags := 33
  interfaces := #[]
  cf := some (fileOf pool0 8 #[] #[{ accessFlags := 1, nameIndex := 5, descriptorIndex := 6, attributes := #[] }] 33 0 #[] #[])
  fields := #[]
  methods := #[k0m0]
  instanceTypes := #[]
  staticTypes := #[]
  resolved := Array.replicate 124 none
  statics := none }

def pool1 : Array CpInfo := pool [(2, .class_ 4), (0, .nameAndType 5 6), (0, u "java/lang/Object"), (0, u "<init>"), (0, u "()V"), (0, .integer 2147483647), (0, .class_ 9), (0, u "com/example/syncline/syncline/client/bench/KvWorkload$Tally"), (0, .methodref 8 3), (0, .methodref 8 12), (0, .nameAndType 13 14), (0, u "addCommittedUpdate"), (0, u "(J)V"), (0, .methodref 8 16), (0, .nameAndType 17 18), (0, u "committed"), (0, u "()J"), (0, .methodref 8 20), (0, .nameAndType 21 22), (0, u "add"), (0, u "(Lcom/example/syncline/syncline/client/bench/KvWorkload$Tally;)V"), (0, .class_ 24), (0, u "com/example/syncline/syncline/client/bench/TallyCommittedPinLaw"), (2, u "law"), (0, u "(IJJJJ)Z")] 7

def k1m0 : Method := { name := "<init>", desc := "()V", sig := { parameters := [], returnType := none }, accessFlags := 1, code := none }
def k1c1 : Code := { maxStack := 6, maxLocals := 21, code := code, exceptionTable := #[], attributes := #[] }
def k1m1 : Method := { name := "law", desc := "(IJJJJ)Z", sig := { parameters := [.int, .long, .long, .long, .long], returnType := some .boolean }, accessFlags := 9, code := some k1c1 }
/-- com/example/syncline/syncline/client/bench/TallyCommittedPinLaw -/
def k1 : Class := { plain "com/example/syncline/syncline/client/bench/TallyCommittedPinLaw" (some 0) with
  accessFlags := 49
  interfaces := #[]
  cf := some (fileOf pool1 23 #[] #[{ accessFlags := 1, nameIndex := 5, descriptorIndex := 6, attributes := #[] }, { accessFlags := 9, nameIndex := 27, descriptorIndex := 28, attributes := #[] }] 49 2 #[] #[])
  fields := #[]
  methods := #[k1m0, k1m1]
  instanceTypes := #[]
  staticTypes := #[]
  resolved := Array.replicate 36 none
  statics := none }

def pool2 : Array CpInfo := pool [(1, .methodref 2 3), (0, .class_ 4), (0, .nameAndType 5 6), (0, u "java/lang/Object"), (0, u "<init>"), (0, u "()V"), (0, .class_ 8), (0, u "com/example/syncline/syncline/client/bench/Latencies"), (0, .methodref 7 3), (0, .fieldref 11 12), (0, .class_ 13), (0, .nameAndType 14 15), (0, u "com/example/syncline/syncline/client/bench/KvWorkload$Tally"), (0, u "updateCommits"), (0, u "Lcom/example/syncline/syncline/client/bench/Latencies;"), (0, .fieldref 11 17), (0, .nameAndType 18 15), (0, u "local"), (0, .fieldref 11 20), (0, .nameAndType 21 15), (0, u "global"), (0, .methodref 7 23), (0, .nameAndType 24 25), (0, u "count"), (0, u "()I"), (0, .fieldref 11 27), (0, .nameAndType 28 29), (0, u "readOnlyCommitted"), (0, u "J"), (0, .methodref 7 31), (0, .nameAndType 32 33), (0, u "add"), (0, u "(J)V"), (6, .methodref 7 41), (0, .nameAndType 42 43), (0, u "addAll"), (0, u "(Lcom/example/syncline/syncline/client/bench/Latencies;)V"), (0, .fieldref 11 45), (0, .nameAndType 46 29), (0, u "updateAborted"), (0, .fieldref 11 48), (0, .nameAndType 49 29), (0, u "readOnlyAborted"), (0, .fieldref 11 51), (0, .nameAndType 52 29), (0, u "committedWhileAllRan"), (12, u "committed"), (0, u "()J"), (0, u "addCommittedUpdate"), (2, u "(Lcom/example/syncline/syncline/client/bench/KvWorkload$Tally;)V"), (4, .class_ 76), (0, u "com/example/syncline/syncline/client/bench/KvWorkload")] 5

def k2c0 : Code := { maxStack := 3, maxLocals := 1, code := prog_25_method_1_code, exceptionTable := #[], attributes := #[] }
def k2m0 : Method := { name := "<init>", desc := "()V", sig := { parameters := [], returnType := none }, accessFlags := 0, code := some k2c0 }
def k2c1 : Code := { maxStack := 4, maxLocals := 1, code := prog_25_method_2_code, exceptionTable := #[], attributes := #[] }
def k2m1 : Method := { name := "committed", desc := "()J", sig := { parameters := [], returnType := some .long }, accessFlags := 0, code := some k2c1 }
def k2c2 : Code := { maxStack := 3, maxLocals := 3, code := prog_25_method_3_code, exceptionTable := #[], attributes := #[] }
def k2m2 : Method := { name := "addCommittedUpdate", desc := "(J)V", sig := { parameters := [.long], returnType := none }, accessFlags := 0, code := some k2c2 }
def k2c3 : Code := { maxStack := 5, maxLocals := 2, code := prog_25_method_5_code, exceptionTable := #[], attributes := #[] }
def k2m3 : Method := { name := "add", desc := "(Lcom/example/syncline/syncline/client/bench/KvWorkload$Tally;)V", sig := { parameters := [(.object "com/example/syncline/syncline/client/bench/KvWorkload$Tally")], returnType := none }, accessFlags := 0, code := some k2c3 }
/-- com/example/syncline/syncline/client/bench/KvWorkload$Tally -/
def k2 : Class := { plain "com/example/syncline/syncline/client/bench/KvWorkload$Tally" (some 0) with
  accessFlags := 48
  interfaces := #[]
  cf := some (fileOf pool2 11 #[.nestHost 75] #[{ accessFlags := 0, nameIndex := 5, descriptorIndex := 6, attributes := #[] }, { accessFlags := 0, nameIndex := 65, descriptorIndex := 66, attributes := #[] }, { accessFlags := 0, nameIndex := 67, descriptorIndex := 33, attributes := #[] }, { accessFlags := 0, nameIndex := 32, descriptorIndex := 70, attributes := #[] }] 48 2 #[] #[{ accessFlags := 18, nameIndex := 14, descriptorIndex := 15, attributes := #[] }, { accessFlags := 2, nameIndex := 46, descriptorIndex := 29, attributes := #[] }, { accessFlags := 2, nameIndex := 28, descriptorIndex := 29, attributes := #[] }, { accessFlags := 2, nameIndex := 49, descriptorIndex := 29, attributes := #[] }, { accessFlags := 2, nameIndex := 52, descriptorIndex := 29, attributes := #[] }, { accessFlags := 18, nameIndex := 18, descriptorIndex := 15, attributes := #[] }, { accessFlags := 18, nameIndex := 21, descriptorIndex := 15, attributes := #[] }])
  fields := #[{ name := "updateCommits", type := (.object "com/example/syncline/syncline/client/bench/Latencies"), accessFlags := 18, slot := 0, constantValue := 0 }, { name := "updateAborted", type := .long, accessFlags := 2, slot := 1, constantValue := 0 }, { name := "readOnlyCommitted", type := .long, accessFlags := 2, slot := 2, constantValue := 0 }, { name := "readOnlyAborted", type := .long, accessFlags := 2, slot := 3, constantValue := 0 }, { name := "committedWhileAllRan", type := .long, accessFlags := 2, slot := 4, constantValue := 0 }, { name := "local", type := (.object "com/example/syncline/syncline/client/bench/Latencies"), accessFlags := 18, slot := 5, constantValue := 0 }, { name := "global", type := (.object "com/example/syncline/syncline/client/bench/Latencies"), accessFlags := 18, slot := 6, constantValue := 0 }]
  methods := #[k2m0, k2m1, k2m2, k2m3]
  instanceTypes := #[(.object "com/example/syncline/syncline/client/bench/Latencies"), .long, .long, .long, .long, (.object "com/example/syncline/syncline/client/bench/Latencies"), (.object "com/example/syncline/syncline/client/bench/Latencies")]
  staticTypes := #[]
  resolved := Array.replicate 82 none
  statics := none }

def pool3 : Array CpInfo := pool [(1, .methodref 2 3), (0, .class_ 4), (0, .nameAndType 5 6), (0, u "java/lang/Object"), (0, u "<init>"), (0, u "()V"), (0, .fieldref 8 9), (0, .class_ 10), (0, .nameAndType 11 12), (0, u "com/example/syncline/syncline/client/bench/Latencies"), (0, u "NONE"), (0, u "[J"), (0, .fieldref 8 14), (0, .nameAndType 15 12), (0, u "nanos"), (0, .fieldref 8 17), (0, .nameAndType 18 19), (0, u "count"), (0, u "I"), (0, .methodref 21 22), (0, .class_ 23), (0, .nameAndType 24 25), (0, u "java/lang/Math"), (0, u "max"), (0, u "(II)I"), (0, .methodref 27 28), (0, .class_ 29), (0, .nameAndType 30 31), (0, u "java/util/Arrays"), (0, u "copyOf"), (0, u "([JI)[J"), (0, .methodref 8 33), (0, .nameAndType 34 35), (0, u "add"), (0, u "(J)V"), (22, u "()I"), (1, u "addAll"), (0, u "(Lcom/example/syncline/syncline/client/bench/Latencies;)V")] 4

def k3c0 : Code := { maxStack := 2, maxLocals := 1, code := prog_26_method_1_code, exceptionTable := #[], attributes := #[] }
def k3m0 : Method := { name := "<init>", desc := "()V", sig := { parameters := [], returnType := none }, accessFlags := 0, code := some k3c0 }
def k3c1 : Code := { maxStack := 1, maxLocals := 1, code := prog_26_method_2_code, exceptionTable := #[], attributes := #[] }
def k3m1 : Method := { name := "count", desc := "()I", sig := { parameters := [], returnType := some .int }, accessFlags := 0, code := some k3c1 }
def k3c2 : Code := { maxStack := 5, maxLocals := 3, code := prog_26_method_3_code, exceptionTable := #[], attributes := #[] }
def k3m2 : Method := { name := "add", desc := "(J)V", sig := { parameters := [.long], returnType := none }, accessFlags := 0, code := some k3c2 }
def k3c3 : Code := { maxStack := 3, maxLocals := 3, code := prog_26_method_4_code, exceptionTable := #[], attributes := #[] }
def k3m3 : Method := { name := "addAll", desc := "(Lcom/example/syncline/syncline/client/bench/Latencies;)V", sig := { parameters := [(.object "com/example/syncline/syncline/client/bench/Latencies")], returnType := none }, accessFlags := 0, code := some k3c3 }
/-- com/example/syncline/syncline/client/bench/Latencies -/
def k3 : Class := { plain "com/example/syncline/syncline/client/bench/Latencies" (some 0) with
  accessFlags := 48
  interfaces := #[]
  cf := some (fileOf pool3 8 #[] #[{ accessFlags := 0, nameIndex := 5, descriptorIndex := 6, attributes := #[] }, { accessFlags := 0, nameIndex := 18, descriptorIndex := 58, attributes := #[] }, { accessFlags := 0, nameIndex := 34, descriptorIndex := 35, attributes := #[] }, { accessFlags := 0, nameIndex := 60, descriptorIndex := 61, attributes := #[] }] 48 2 #[] #[{ accessFlags := 26, nameIndex := 11, descriptorIndex := 12, attributes := #[] }, { accessFlags := 2, nameIndex := 18, descriptorIndex := 19, attributes := #[] }, { accessFlags := 2, nameIndex := 15, descriptorIndex := 12, attributes := #[] }])
  fields := #[{ name := "NONE", type := (.array .long), accessFlags := 26, slot := 0, constantValue := 0 }, { name := "count", type := .int, accessFlags := 2, slot := 0, constantValue := 0 }, { name := "nanos", type := (.array .long), accessFlags := 2, slot := 1, constantValue := 0 }]
  methods := #[k3m0, k3m1, k3m2, k3m3]
  instanceTypes := #[.int, (.array .long)]
  staticTypes := #[(.array .long)]
  resolved := Array.replicate 66 none
  statics := some 0 }

def pool4 : Array CpInfo := pool [(1, .class_ 2), (0, u "java/lang/Math"), (1, .class_ 6), (1, u "java/lang/Object"), (0, u "<init>"), (0, u "()V"), (89, .class_ 100), (1, u "java/lang/Math$RandomNumberGeneratorHolder"), (71, u "negativeZeroFloatBits"), (0, u "J"), (2, u "negativeZeroDoubleBits"), (21, u "max"), (2, u "min"), (43, u "$assertionsDisabled"), (0, u "Z"), (88, u "(II)I"), (2, u "twoToTheDoubleScaleDown"), (0, u "D"), (4, u "twoToTheDoubleScaleUp"), (9, u "E"), (3, u "PI"), (2, u "TAU"), (2, u "DEGREES_TO_RADIANS"), (0, u "RADIANS_TO_DEGREES")] 94

def k4m0 : Method := { name := "<init>", desc := "()V", sig := { parameters := [], returnType := none }, accessFlags := 2, code := none }
def k4c1 : Code := { maxStack := 2, maxLocals := 2, code := jdk_29_method_65_code, exceptionTable := #[], attributes := #[] }
def k4m1 : Method := { name := "max", desc := "(II)I", sig := { parameters := [.int, .int], returnType := some .int }, accessFlags := 9, code := some k4c1 }
def k4c2 : Code := { maxStack := 2, maxLocals := 2, code := jdk_29_method_69_code, exceptionTable := #[], attributes := #[] }
def k4m2 : Method := { name := "min", desc := "(II)I", sig := { parameters := [.int, .int], returnType := some .int }, accessFlags := 9, code := some k4c2 }
/-- java/lang/Math -/
def k4 : Class := { plain "java/lang/Math" (some 0) with
  accessFlags := 49
  interfaces := #[]
  cf := some (fileOf pool4 1 #[.nestMembers #[98]] #[{ accessFlags := 2, nameIndex := 7, descriptorIndex := 8, attributes := #[] }, { accessFlags := 9, nameIndex := 198, descriptorIndex := 335, attributes := #[] }, { accessFlags := 9, nameIndex := 201, descriptorIndex := 335, attributes := #[] }] 49 4 #[] #[{ accessFlags := 25, nameIndex := 354, descriptorIndex := 339, attributes := #[] }, { accessFlags := 25, nameIndex := 358, descriptorIndex := 339, attributes := #[] }, { accessFlags := 25, nameIndex := 361, descriptorIndex := 339, attributes := #[] }, { accessFlags := 26, nameIndex := 364, descriptorIndex := 339, attributes := #[] }, { accessFlags := 26, nameIndex := 365, descriptorIndex := 339, attributes := #[] }, { accessFlags := 26, nameIndex := 172, descriptorIndex := 173, attributes := #[] }, { accessFlags := 26, nameIndex := 176, descriptorIndex := 173, attributes := #[] }, { accessFlags := 8, nameIndex := 344, descriptorIndex := 339, attributes := #[] }, { accessFlags := 8, nameIndex := 338, descriptorIndex := 339, attributes := #[] }, { accessFlags := 4120, nameIndex := 245, descriptorIndex := 246, attributes := #[] }])
  fields := #[{ name := "E", type := .double, accessFlags := 25, slot := 0, constantValue := 0 }, { name := "PI", type := .double, accessFlags := 25, slot := 1, constantValue := 0 }, { name := "TAU", type := .double, accessFlags := 25, slot := 2, constantValue := 0 }, { name := "DEGREES_TO_RADIANS", type := .double, accessFlags := 26, slot := 3, constantValue := 0 }, { name := "RADIANS_TO_DEGREES", type := .double, accessFlags := 26, slot := 4, constantValue := 0 }, { name := "negativeZeroFloatBits", type := .long, accessFlags := 26, slot := 5, constantValue := 0 }, { name := "negativeZeroDoubleBits", type := .long, accessFlags := 26, slot := 6, constantValue := 0 }, { name := "twoToTheDoubleScaleUp", type := .double, accessFlags := 8, slot := 7, constantValue := 0 }, { name := "twoToTheDoubleScaleDown", type := .double, accessFlags := 8, slot := 8, constantValue := 0 }, { name := "$assertionsDisabled", type := .boolean, accessFlags := 4120, slot := 9, constantValue := 0 }]
  methods := #[k4m0, k4m1, k4m2]
  instanceTypes := #[]
  staticTypes := #[.double, .double, .double, .double, .double, .long, .long, .double, .double, .boolean]
  resolved := Array.replicate 460 none
  statics := none }

def pool5 : Array CpInfo := pool [(2, .class_ 4), (1, u "java/lang/Object"), (0, u "<init>"), (0, u "()V"), (7, .class_ 16), (1, u "java/util/Arrays"), (57, .class_ 76), (1, u "java/util/Arrays$NaturalOrder"), (36, .class_ 115), (1, u "java/util/Arrays$LegacyMergeSort"), (1, u "Z"), (32, .methodref 151 152), (0, .class_ 153), (0, .nameAndType 154 155), (0, u "java/lang/System"), (0, u "arraycopy"), (0, u "(Ljava/lang/Object;ILjava/lang/Object;II)V"), (146, u "copyOf"), (1, .methodref 305 306), (0, .class_ 307), (0, .nameAndType 308 309), (0, u "java/lang/Math"), (0, u "min"), (0, u "(II)I"), (65, .class_ 376), (0, u "java/util/Arrays$ArrayList"), (68, u "$assertionsDisabled"), (269, u "MIN_ARRAY_SORT_GRAN"), (0, u "I"), (2, u "INSERTIONSORT_THRESHOLD"), (152, u "([JI)[J"), (102, .class_ 976), (0, u "java/util/Arrays$ArrayItr")] 52

def k5m0 : Method := { name := "<init>", desc := "()V", sig := { parameters := [], returnType := none }, accessFlags := 2, code := none }
def k5c1 : Code := { maxStack := 6, maxLocals := 3, code := jdk_65_method_124_code, exceptionTable := #[], attributes := #[] }
def k5m1 : Method := { name := "copyOf", desc := "([JI)[J", sig := { parameters := [(.array .long), .int], returnType := some (.array .long) }, accessFlags := 9, code := some k5c1 }
/-- java/util/Arrays -/
def k5 : Class := { plain "java/util/Arrays" (some 0) with
  accessFlags := 49
  interfaces := #[]
  cf := some (fileOf pool5 14 #[.nestMembers #[975, 375, 113, 74]] #[{ accessFlags := 2, nameIndex := 5, descriptorIndex := 6, attributes := #[] }, { accessFlags := 9, nameIndex := 302, descriptorIndex := 872, attributes := #[] }] 49 2 #[] #[{ accessFlags := 26, nameIndex := 715, descriptorIndex := 716, attributes := #[] }, { accessFlags := 26, nameIndex := 719, descriptorIndex := 716, attributes := #[] }, { accessFlags := 4120, nameIndex := 445, descriptorIndex := 117, attributes := #[] }])
  fields := #[{ name := "MIN_ARRAY_SORT_GRAN", type := .int, accessFlags := 26, slot := 0, constantValue := 0 }, { name := "INSERTIONSORT_THRESHOLD", type := .int, accessFlags := 26, slot := 1, constantValue := 0 }, { name := "$assertionsDisabled", type := .boolean, accessFlags := 4120, slot := 2, constantValue := 0 }]
  methods := #[k5m0, k5m1]
  instanceTypes := #[]
  staticTypes := #[.int, .int, .boolean]
  resolved := Array.replicate 1029 none
  statics := none }

def pool6 : Array CpInfo := pool [(2, .class_ 4), (1, u "java/lang/Object"), (0, u "<init>"), (0, u "()V"), (1, .class_ 10), (1, u "java/lang/System"), (0, u "allowSecurityManager"), (0, u "I"), (16, u "cons"), (0, u "Ljava/io/Console;"), (77, .class_ 110), (1, u "java/lang/System$CallersHolder"), (43, u "initialErrStream"), (0, u "Ljava/io/PrintStream;"), (19, u "security"), (0, u "Ljava/lang/SecurityManager;"), (31, .class_ 209), (0, u "java/lang/System$1"), (7, u "props"), (0, u "Ljava/util/Properties;"), (2, u "lineSeparator"), (0, u "Ljava/lang/String;"), (96, .class_ 321), (1, u "java/lang/System$LoggerFinder"), (5, .class_ 328), (0, u "java/lang/System$Logger"), (67, u "err"), (2, u "out"), (91, u "notSupportedJnuEncoding"), (15, u "in"), (17, u "initialIn"), (0, u "Ljava/io/InputStream;"), (35, u "bootLayer"), (0, u "Ljava/lang/ModuleLayer;"), (99, .class_ 664), (0, u "java/lang/System$2"), (9, u "NEVER"), (2, u "MAYBE"), (49, u "arraycopy"), (0, u "(Ljava/lang/Object;ILjava/lang/Object;II)V"), (72, .class_ 802), (0, u "java/lang/System$Logger$Level")] 31

def k6m0 : Method := { name := "<init>", desc := "()V", sig := { parameters := [], returnType := none }, accessFlags := 2, code := none }
def k6m1 : Method := { name := "arraycopy", desc := "(Ljava/lang/Object;ILjava/lang/Object;II)V", sig := { parameters := [(.object "java/lang/Object"), .int, (.object "java/lang/Object"), .int, .int], returnType := none }, accessFlags := 265, code := none }
/-- java/lang/System -/
def k6 : Class := { plain "java/lang/System" (some 0) with
  accessFlags := 49
  interfaces := #[]
  cf := some (fileOf pool6 8 #[.nestMembers #[319, 327, 801, 108, 663, 208]] #[{ accessFlags := 2, nameIndex := 5, descriptorIndex := 6, attributes := #[] }, { accessFlags := 265, nameIndex := 727, descriptorIndex := 728, attributes := #[] }] 49 2 #[] #[{ accessFlags := 25, nameIndex := 507, descriptorIndex := 526, attributes := #[] }, { accessFlags := 25, nameIndex := 399, descriptorIndex := 155, attributes := #[] }, { accessFlags := 25, nameIndex := 396, descriptorIndex := 155, attributes := #[] }, { accessFlags := 10, nameIndex := 525, descriptorIndex := 526, attributes := #[] }, { accessFlags := 26, nameIndex := 674, descriptorIndex := 12, attributes := #[] }, { accessFlags := 26, nameIndex := 677, descriptorIndex := 12, attributes := #[] }, { accessFlags := 10, nameIndex := 11, descriptorIndex := 12, attributes := #[] }, { accessFlags := 74, nameIndex := 175, descriptorIndex := 176, attributes := #[] }, { accessFlags := 10, nameIndex := 491, descriptorIndex := 222, attributes := #[] }, { accessFlags := 74, nameIndex := 29, descriptorIndex := 30, attributes := #[] }, { accessFlags := 74, nameIndex := 154, descriptorIndex := 155, attributes := #[] }, { accessFlags := 10, nameIndex := 217, descriptorIndex := 218, attributes := #[] }, { accessFlags := 10, nameIndex := 221, descriptorIndex := 222, attributes := #[] }, { accessFlags := 8, nameIndex := 562, descriptorIndex := 563, attributes := #[] }])
  fields := #[{ name := "in", type := (.object "java/io/InputStream"), accessFlags := 25, slot := 0, constantValue := 0 }, { name := "out", type := (.object "java/io/PrintStream"), accessFlags := 25, slot := 1, constantValue := 0 }, { name := "err", type := (.object "java/io/PrintStream"), accessFlags := 25, slot := 2, constantValue := 0 }, { name := "initialIn", type := (.object "java/io/InputStream"), accessFlags := 10, slot := 3, constantValue := 0 }, { name := "NEVER", type := .int, accessFlags := 26, slot := 4, constantValue := 0 }, { name := "MAYBE", type := .int, accessFlags := 26, slot := 5, constantValue := 0 }, { name := "allowSecurityManager", type := .int, accessFlags := 10, slot := 6, constantValue := 0 }, { name := "security", type := (.object "java/lang/SecurityManager"), accessFlags := 74, slot := 7, constantValue := 0 }, { name := "notSupportedJnuEncoding", type := (.object "java/lang/String"), accessFlags := 10, slot := 8, constantValue := 0 }, { name := "cons", type := (.object "java/io/Console"), accessFlags := 74, slot := 9, constantValue := 0 }, { name := "initialErrStream", type := (.object "java/io/PrintStream"), accessFlags := 74, slot := 10, constantValue := 0 }, { name := "props", type := (.object "java/util/Properties"), accessFlags := 10, slot := 11, constantValue := 0 }, { name := "lineSeparator", type := (.object "java/lang/String"), accessFlags := 10, slot := 12, constantValue := 0 }, { name := "bootLayer", type := (.object "java/lang/ModuleLayer"), accessFlags := 8, slot := 13, constantValue := 0 }]
  methods := #[k6m0, k6m1]
  instanceTypes := #[]
  staticTypes := #[(.object "java/io/InputStream"), (.object "java/io/PrintStream"), (.object "java/io/PrintStream"), (.object "java/io/InputStream"), .int, .int, .int, (.object "java/lang/SecurityManager"), (.object "java/lang/String"), (.object "java/io/Console"), (.object "java/io/PrintStream"), (.object "java/util/Properties"), (.object "java/lang/String"), (.object "java/lang/ModuleLayer")]
  resolved := Array.replicate 834 none
  statics := none }

def pool7 : Array CpInfo := pool [(1, u "java/lang/Cloneable"), (0, .class_ 1), (0, u "java/lang/Object"), (0, .class_ 3)] 3

/-- java/lang/Cloneable -/
def k7 : Class := { plain "java/lang/Cloneable" (some 0) with
  accessFlags := 1537
  interfaces := #[]
  cf := some (fileOf pool7 2 #[] #[] 1537 4 #[] #[])
  fields := #[]
  methods := #[]
  instanceTypes := #[]
  staticTypes := #[]
  resolved := Array.replicate 8 none
  statics := none }

def pool8 : Array CpInfo := pool [(1, u "java/io/Serializable"), (0, .class_ 1), (0, u "java/lang/Object"), (0, .class_ 3)] 3

/-- java/io/Serializable -/
def k8 : Class := { plain "java/io/Serializable" (some 0) with
  accessFlags := 1537
  interfaces := #[]
  cf := some (fileOf pool8 2 #[] #[] 1537 4 #[] #[])
  fields := #[]
  methods := #[]
  instanceTypes := #[]
  staticTypes := #[]
  resolved := Array.replicate 8 none
  statics := none }

/-- the primitive byte -/
def k9 : Class := { plain "byte" none with kind := .primitive 'B', accessFlags := 0x411 }
/-- [B -/
def k10 : Class := { plain "[B" (some 0) with kind := .array 9 .byte, interfaces := #[7, 8], accessFlags := 1041 }

/-- the primitive int -/
def k11 : Class := { plain "int" none with kind := .primitive 'I', accessFlags := 0x411 }
/-- [I -/
def k12 : Class := { plain "[I" (some 0) with kind := .array 11 .int, interfaces := #[7, 8], accessFlags := 1041 }

/-- the primitive long -/
def k13 : Class := { plain "long" none with kind := .primitive 'J', accessFlags := 0x411 }
/-- [J -/
def k14 : Class := { plain "[J" (some 0) with kind := .array 13 .long, interfaces := #[7, 8], accessFlags := 1041 }

def heap : Heap := #[{ cls := 3, slots := #[.ref 1], vm := .statics 3 },
  { cls := 14, slots := #[], vm := .none }]
def classes : Array Class := #[k0, k1, k2, k3, k4, k5, k6, k7, k8, k9, k10, k11, k12, k13, k14]
def interned : List (Array UInt16 × Addr) := []
def slotsUsed : Nat := 1
def theMethod : MethodId := ⟨1, 1⟩
def args0 : Array Value := #[.int 258, .long 3, .long 4, .long 5, .long 6]
def aboutOver (below : List Frame) : State where
  vm := { classes := classes, interned := interned.toArray }
  heap := heap
  slotsUsed := slotsUsed
  threads := #[{ frames := .invoking theMethod args0 :: below }]
def below0 : List Frame := [.native { method := ⟨0, 0⟩, args := #[] }]
def about1 : State := aboutOver below0
def p0 : Program := .bare "" "" ""
def e0 : Env := launch0.env 0 0 0
theorem w_frames : about1.frames = Frame.invoking theMethod args0 :: below0 := rfl
set_option maxRecDepth 65536 in
theorem w_args : argsFit about1.vm theMethod args0 = true := by decide +kernel
set_option maxRecDepth 65536 in
theorem w_heap : heapFits about1 = true := by decide +kernel
set_option maxRecDepth 65536 in
theorem w_runnable : about1.curStatus? = some .runnable := by decide +kernel
set_option maxRecDepth 65536 in
theorem w_alone : about1.alone = true := by decide +kernel
set_option maxRecDepth 65536 in
theorem w_named : about1.methodNamed? x = some theMethod := by decide +kernel
set_option maxRecDepth 65536 in
theorem w_hears : about1.hears theMethod below0 = true := by decide +kernel
set_option maxRecDepth 65536 in
theorem w_ripe : about1.ripe theMethod args0 below0 = true := by decide +kernel
theorem w_running : about1.status = .running := rfl
set_option maxRecDepth 65536 in
theorem w_room : about1.hasRoom e0.platform room_1 = true :=
  launch0.hasRoom_least _ room_1 (by decide +kernel) (by decide +kernel) (by decide +kernel) (by decide +kernel) (by decide +kernel) (by decide +kernel)
theorem allAtoms_all (ts : List Jvm.Cond) (a : Array Jvm.Value) (st : Jvm.State) : (allAtoms ts).before a st = ts.all (fun c => c.before a st) := by
  induction ts with
  | nil => rfl
  | cons c t ih =>
    show (Jvm.Cond.and c (allAtoms t)).before a st = _
    rw [Jvm.Cond.before_and, ih, List.all_cons]
def words1 : List Jvm.Cond := Jvm.Cond.code x code maxLocals ret :: tables_1
/-- a 'code' word, met by the world's own term for the bytes: nothing is compared byte by byte -/
theorem code_word {y : MethodName} {bytes : ByteArray} {mx : Nat} {rt : Option FieldType} {a : Array Value} {s : State} {m : MethodId} {meth : Method} {c : Code} (h1 : s.methodNamed? y = some m) (h2 : s.vm.method? m = some meth) (h3 : meth.code = some c) (h4 : c.code = bytes)
    (h5 : (c.maxLocals == mx && c.exceptionTable.isEmpty && decide (c.maxStack ≤ mostOperands) && decide (meth.sig.returnType = rt) && !meth.locks && decide (parseMethodDescriptor y.desc = some meth.sig)) = true) : (Jvm.Cond.code y bytes mx rt).before a s = true := by
  simp only [Bool.and_eq_true, beq_iff_eq, Bool.not_eq_true', decide_eq_true_eq] at h5
  obtain ⟨⟨⟨⟨⟨g1, g2⟩, g3⟩, g4⟩, g5⟩, g6⟩ := h5
  simp [Cond.before, Cond.holds, Cond.value, h1, h2, h3, h4, g1, g2, g3, g4, g5, g6]
def isCode : Jvm.Cond → Bool
  | .code _ _ _ _ => true
  | _ => false
theorem all_split {L : List Jvm.Cond} {P : Jvm.Cond → Bool} (h1 : L.all (fun c => isCode c || P c) = true) (h2 : ∀ c ∈ L.filter isCode, P c = true) : L.all P = true := by
  refine List.all_eq_true.mpr fun c hc => ?_
  have h := List.all_eq_true.mp h1 c hc
  rcases Bool.eq_false_or_eq_true (isCode c) with hi | hi
  · exact h2 c (List.mem_filter.mpr ⟨hc, hi⟩)
  · simpa [hi] using h
set_option maxRecDepth 65536 in
theorem w_c0 : (Jvm.Cond.code x code maxLocals ret).before args0 about1 = true := code_word (m := ⟨1, 1⟩) (meth := k1m1) (c := k1c1) (by decide +kernel) rfl rfl rfl (by decide +kernel)
set_option maxRecDepth 65536 in
theorem w_c1 : (Jvm.Cond.code ({ cls := "com/example/syncline/syncline/client/bench/KvWorkload$Tally", name := "<init>", desc := "()V" } : Jvm.MethodName) prog_25_method_1_code (1 : Nat) (Option.none : Option Jvm.ClassFile.FieldType)).before args0 about1 = true := code_word (m := ⟨2, 0⟩) (meth := k2m0) (c := k2c0) (by decide +kernel) rfl rfl rfl (by decide +kernel)
set_option maxRecDepth 65536 in
theorem w_c2 : (Jvm.Cond.code ({ cls := "java/lang/Object", name := "<init>", desc := "()V" } : Jvm.MethodName) object_method_1_code (1 : Nat) (Option.none : Option Jvm.ClassFile.FieldType)).before args0 about1 = true := code_word (m := ⟨0, 0⟩) (meth := k0m0) (c := k0c0) (by decide +kernel) rfl rfl rfl (by decide +kernel)
set_option maxRecDepth 65536 in
theorem w_c3 : (Jvm.Cond.code ({ cls := "com/example/syncline/syncline/client/bench/Latencies", name := "<init>", desc := "()V" } : Jvm.MethodName) prog_26_method_1_code (1 : Nat) (Option.none : Option Jvm.ClassFile.FieldType)).before args0 about1 = true := code_word (m := ⟨3, 0⟩) (meth := k3m0) (c := k3c0) (by decide +kernel) rfl rfl rfl (by decide +kernel)
set_option maxRecDepth 65536 in
theorem w_c4 : (Jvm.Cond.code ({ cls := "com/example/syncline/syncline/client/bench/KvWorkload$Tally", name := "committed", desc := "()J" } : Jvm.MethodName) prog_25_method_2_code (1 : Nat) (Option.some Jvm.ClassFile.FieldType.long)).before args0 about1 = true := code_word (m := ⟨2, 1⟩) (meth := k2m1) (c := k2c1) (by decide +kernel) rfl rfl rfl (by decide +kernel)
set_option maxRecDepth 65536 in
theorem w_c5 : (Jvm.Cond.code ({ cls := "com/example/syncline/syncline/client/bench/Latencies", name := "count", desc := "()I" } : Jvm.MethodName) prog_26_method_2_code (1 : Nat) (Option.some Jvm.ClassFile.FieldType.int)).before args0 about1 = true := code_word (m := ⟨3, 1⟩) (meth := k3m1) (c := k3c1) (by decide +kernel) rfl rfl rfl (by decide +kernel)
set_option maxRecDepth 65536 in
theorem w_c6 : (Jvm.Cond.code ({ cls := "com/example/syncline/syncline/client/bench/KvWorkload$Tally", name := "add", desc := "(Lcom/example/syncline/syncline/client/bench/KvWorkload$Tally;)V" } : Jvm.MethodName) prog_25_method_5_code (2 : Nat) (Option.none : Option Jvm.ClassFile.FieldType)).before args0 about1 = true := code_word (m := ⟨2, 3⟩) (meth := k2m3) (c := k2c3) (by decide +kernel) rfl rfl rfl (by decide +kernel)
set_option maxRecDepth 65536 in
theorem w_c7 : (Jvm.Cond.code ({ cls := "com/example/syncline/syncline/client/bench/Latencies", name := "addAll", desc := "(Lcom/example/syncline/syncline/client/bench/Latencies;)V" } : Jvm.MethodName) prog_26_method_4_code (3 : Nat) (Option.none : Option Jvm.ClassFile.FieldType)).before args0 about1 = true := code_word (m := ⟨3, 3⟩) (meth := k3m3) (c := k3c3) (by decide +kernel) rfl rfl rfl (by decide +kernel)
set_option maxRecDepth 65536 in
theorem w_c8 : (Jvm.Cond.code ({ cls := "com/example/syncline/syncline/client/bench/KvWorkload$Tally", name := "addCommittedUpdate", desc := "(J)V" } : Jvm.MethodName) prog_25_method_3_code (3 : Nat) (Option.none : Option Jvm.ClassFile.FieldType)).before args0 about1 = true := code_word (m := ⟨2, 2⟩) (meth := k2m2) (c := k2c2) (by decide +kernel) rfl rfl rfl (by decide +kernel)
set_option maxRecDepth 65536 in
theorem w_c9 : (Jvm.Cond.code ({ cls := "com/example/syncline/syncline/client/bench/Latencies", name := "add", desc := "(J)V" } : Jvm.MethodName) prog_26_method_3_code (3 : Nat) (Option.none : Option Jvm.ClassFile.FieldType)).before args0 about1 = true := code_word (m := ⟨3, 2⟩) (meth := k3m2) (c := k3c2) (by decide +kernel) rfl rfl rfl (by decide +kernel)
set_option maxRecDepth 65536 in
theorem w_c10 : (Jvm.Cond.code ({ cls := "java/lang/Math", name := "max", desc := "(II)I" } : Jvm.MethodName) jdk_29_method_65_code (2 : Nat) (Option.some Jvm.ClassFile.FieldType.int)).before args0 about1 = true := code_word (m := ⟨4, 1⟩) (meth := k4m1) (c := k4c1) (by decide +kernel) rfl rfl rfl (by decide +kernel)
set_option maxRecDepth 65536 in
theorem w_c11 : (Jvm.Cond.code ({ cls := "java/util/Arrays", name := "copyOf", desc := "([JI)[J" } : Jvm.MethodName) jdk_65_method_124_code (3 : Nat) (Option.some (Jvm.ClassFile.FieldType.array Jvm.ClassFile.FieldType.long))).before args0 about1 = true := code_word (m := ⟨5, 1⟩) (meth := k5m1) (c := k5c1) (by decide +kernel) rfl rfl rfl (by decide +kernel)
set_option maxRecDepth 65536 in
theorem w_c12 : (Jvm.Cond.code ({ cls := "java/lang/Math", name := "min", desc := "(II)I" } : Jvm.MethodName) jdk_29_method_69_code (2 : Nat) (Option.some Jvm.ClassFile.FieldType.int)).before args0 about1 = true := code_word (m := ⟨4, 2⟩) (meth := k4m2) (c := k4c2) (by decide +kernel) rfl rfl rfl (by decide +kernel)
def codes1 : List Jvm.Cond := [Jvm.Cond.code x code maxLocals ret, Jvm.Cond.code ({ cls := "com/example/syncline/syncline/client/bench/KvWorkload$Tally", name := "<init>", desc := "()V" } : Jvm.MethodName) prog_25_method_1_code (1 : Nat) (Option.none : Option Jvm.ClassFile.FieldType), Jvm.Cond.code ({ cls := "java/lang/Object", name := "<init>", desc := "()V" } : Jvm.MethodName) object_method_1_code (1 : Nat) (Option.none : Option Jvm.ClassFile.FieldType), Jvm.Cond.code ({ cls := "com/example/syncline/syncline/client/bench/Latencies", name := "<init>", desc := "()V" } : Jvm.MethodName) prog_26_method_1_code (1 : Nat) (Option.none : Option Jvm.ClassFile.FieldType), Jvm.Cond.code ({ cls := "com/example/syncline/syncline/client/bench/KvWorkload$Tally", name := "committed", desc := "()J" } : Jvm.MethodName) prog_25_method_2_code (1 : Nat) (Option.some Jvm.ClassFile.FieldType.long), Jvm.Cond.code ({ cls := "com/example/syncline/syncline/client/bench/Latencies", name := "count", desc := "()I" } : Jvm.MethodName) prog_26_method_2_code (1 : Nat) (Option.some Jvm.ClassFile.FieldType.int), Jvm.Cond.code ({ cls := "com/example/syncline/syncline/client/bench/KvWorkload$Tally", name := "add", desc := "(Lcom/example/syncline/syncline/client/bench/KvWorkload$Tally;)V" } : Jvm.MethodName) prog_25_method_5_code (2 : Nat) (Option.none : Option Jvm.ClassFile.FieldType), Jvm.Cond.code ({ cls := "com/example/syncline/syncline/client/bench/Latencies", name := "addAll", desc := "(Lcom/example/syncline/syncline/client/bench/Latencies;)V" } : Jvm.MethodName) prog_26_method_4_code (3 : Nat) (Option.none : Option Jvm.ClassFile.FieldType), Jvm.Cond.code ({ cls := "com/example/syncline/syncline/client/bench/KvWorkload$Tally", name := "addCommittedUpdate", desc := "(J)V" } : Jvm.MethodName) prog_25_method_3_code (3 : Nat) (Option.none : Option Jvm.ClassFile.FieldType), Jvm.Cond.code ({ cls := "com/example/syncline/syncline/client/bench/Latencies", name := "add", desc := "(J)V" } : Jvm.MethodName) prog_26_method_3_code (3 : Nat) (Option.none : Option Jvm.ClassFile.FieldType), Jvm.Cond.code ({ cls := "java/lang/Math", name := "max", desc := "(II)I" } : Jvm.MethodName) jdk_29_method_65_code (2 : Nat) (Option.some Jvm.ClassFile.FieldType.int), Jvm.Cond.code ({ cls := "java/util/Arrays", name := "copyOf", desc := "([JI)[J" } : Jvm.MethodName) jdk_65_method_124_code (3 : Nat) (Option.some (Jvm.ClassFile.FieldType.array Jvm.ClassFile.FieldType.long)), Jvm.Cond.code ({ cls := "java/lang/Math", name := "min", desc := "(II)I" } : Jvm.MethodName) jdk_29_method_69_code (2 : Nat) (Option.some Jvm.ClassFile.FieldType.int)]
set_option maxRecDepth 65536 in
theorem codes_eq : words1.filter isCode = codes1 := rfl
theorem w_codes : ∀ c ∈ words1.filter isCode, c.before args0 about1 = true := by
  rw [codes_eq]
  intro c hc
  simp only [codes1, List.mem_cons, List.not_mem_nil, or_false] at hc
  rcases hc with rfl | rfl | rfl | rfl | rfl | rfl | rfl | rfl | rfl | rfl | rfl | rfl | rfl
  · exact w_c0
  · exact w_c1
  · exact w_c2
  · exact w_c3
  · exact w_c4
  · exact w_c5
  · exact w_c6
  · exact w_c7
  · exact w_c8
  · exact w_c9
  · exact w_c10
  · exact w_c11
  · exact w_c12
set_option maxRecDepth 65536 in
theorem w_t1 : (words1.take 24).all (fun c => isCode c || c.before args0 about1) = true := by decide +kernel
set_option maxRecDepth 65536 in
theorem w_t2 : ((words1.drop 24).take 24).all (fun c => isCode c || c.before args0 about1) = true := by decide +kernel
set_option maxRecDepth 65536 in
theorem w_t3 : (((words1.drop 24).drop 24).take 24).all (fun c => isCode c || c.before args0 about1) = true := by decide +kernel
set_option maxRecDepth 65536 in
theorem w_t4 : (((words1.drop 24).drop 24).drop 24).all (fun c => isCode c || c.before args0 about1) = true := by decide +kernel
theorem w_tables : (allAtoms (Jvm.Cond.code x code maxLocals ret :: tables_1)).before args0 about1 = true := by
  rw [allAtoms_all]
  show words1.all (fun c => c.before args0 about1) = true
  refine all_split ?_ w_codes
  rw [← List.take_append_drop 24 words1, List.all_append, w_t1, ← List.take_append_drop 24 (words1.drop 24), List.all_append, w_t2, ← List.take_append_drop 24 ((words1.drop 24).drop 24), List.all_append, w_t3, w_t4]
  rfl
set_option maxRecDepth 65536 in
theorem w_case : (Jvm.Cond.and given_1 narrow_1).before args0 about1 = true := by decide +kernel
theorem w_applies : (headSpec (Jvm.Cond.code x code maxLocals ret :: tables_1) room_1).applies x e0.platform about1 = true :=
  (Spec.applies_iff w_frames).mpr ⟨w_running, w_runnable, w_alone, w_named, w_hears, w_ripe, w_room, w_tables⟩
theorem atStart : AtStart classFile x code maxLocals ret World_1 tables_1 room_1 Calls_1 rest_1 Pre_1 launch0 p0 e0 about1 theMethod args0 below0 :=
  ⟨lists_1, trivial, launch0.admits_env _ _ _, launch0.least_env, fairChoices_fair.cas, fairChoices_fair.clock, w_frames, w_args, w_heap, w_applies, trivial, trivial, w_case⟩
end start1
theorem witness_1 : WitnessClaimed_1 := ⟨start1.p0, start1.e0, start1.about1, start1.theMethod, start1.args0, start1.below0, start1.atStart⟩
end Jvm.Pilot.@@N@@
